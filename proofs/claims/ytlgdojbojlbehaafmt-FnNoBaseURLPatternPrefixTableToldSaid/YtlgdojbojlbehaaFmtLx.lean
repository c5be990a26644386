/-
  isValidTSConfigPathNoBaseURLPattern. No condition.
-/
import Derived.Test.YtlgdojbojlbehaaFmtLv
import Derived.Test.YtlgdojbojlbehaaFmtSp
import Derived.Deep.CutRange
import Derived.Deep.RegionHeld3
import Derived.Deep.DeepCutAuto
import Derived.Deep.CutBlock
namespace Go.Proofs.YtlgdojbojlbehaaFmt
open Go.ChangeShapes Go.WideShapes Go.ChangeAt Go.RowKit Go.Extern.Stop Go.Stop Go.Extern
open Go.MuLone
set_option linter.unusedVariables false

def sl (c : Nat) : Bool := c == 47 || c == 92
def lt (c : Nat) : Bool := (decide (97 ≤ c) && decide (c ≤ 122)) || (decide (65 ≤ c) && decide (c ≤ 90))
def cB (t : ByteArray) (i : Nat) : Nat := if h : i < t.size then t[i].toNat else 0
def p1 (n x0 x1 : Nat) : Bool := x0 == 46 && (n == 1 || (n == 2 && x1 == 46))
def p2 (x0 x1 x2 : Nat) : Bool := x0 == 46 && (sl x1 || (x1 == 46 && sl x2))
def p4 (x0 x1 x2 : Nat) : Bool := lt x0 && x1 == 58 && sl x2
def acc (n x0 x1 x2 : Nat) : Bool := p1 n x0 x1 || p2 x0 x1 x2 || sl x0 || p4 x0 x1 x2
theorem sl_ne {c : Nat} (h1 : c ≠ 47) (h2 : c ≠ 92) : sl c = false := by simp [sl, h1, h2]
set_option maxRecDepth 100000 in
theorem slash18 (c : Nat) (w : World) : Calls Tryf.prog 18 #[.int .u8 c] w fun e w' => e = .returned (.bool (sl c)) ∧ w = w' := by
  by_cases h1 : c = 47
  · subst h1
    go_enter Tryf.func18, Tryf.ntmps18
    go_wp2
    go_ret
    exact ⟨rfl, rfl⟩
  · have g1 : ((c : Int) == 47) = false := by simp; omega
    by_cases h2 : c = 92
    · subst h2
      go_enter Tryf.func18, Tryf.ntmps18
      go_wp2
      go_ret
      exact ⟨rfl, rfl⟩
    · have g2 : ((c : Int) == 92) = false := by simp; omega
      rw [sl_ne h1 h2]
      clear h1 h2
      go_enter Tryf.func18, Tryf.ntmps18
      go_wp2
      go_ret
      exact ⟨rfl, rfl⟩
theorem Lg.fr23 {base K M X H n P : Nat} {s : Int} {v : Value} {ms : List Value} {w w' : World} {cs : Array Value} (h : Lg base K M X H s v ms n w) (hT : Bk w P 23 cs) (hF : Fr (fun k => k = P) w w') : Lg base K M X H s v ms n w' :=
  h.kept hF (by
    rintro b c t fr hh _ ht rfl
    have e := hh.symm.trans hT
    have : t = 23 := by simpa using congrArg (fun o => match o with | some (Obj.cells _ t _) => t | _ => 0) e
    subst this
    unfold lgT at ht
    simp at ht)
def Ok8 (base K M X H P : Nat) (w w' : World) : Prop :=
  (∃ v' ms' n', n' ≤ 1 ∧ Lg base K M X H 0 v' ms' n' w') ∧ Below base w w' ∧ (∃ tr, Bk w' P 23 #[.pointer tr]) ∧ ∀ g cs, Bk w g 33 cs → Bk w' g 33 cs
set_option maxRecDepth 10000000 in
set_option maxHeartbeats 16000000 in
theorem valid8 (F : Interp) {base K M X H S P : Nat} {v : Value} {ms : List Value} {w : World} (hF : F.told.answers w.tape) (h : Lg base K M X H 0 v ms 0 w) (hS : Bk w S 45 srcCells) (hP : Bk w P 23 #[.pointer none]) (hPb : base ≤ P) (hbB : base ≤ w.heap.size) (t : ByteArray) (ht : t.size ≤ 1048576) :
    Calls Tryf.prog 8 #[.string t, logV K M X H, .pointer (some ⟨S, 0, none⟩), .pointer (some ⟨P, 0, none⟩), .agg #[.int .i32 0]] w
      fun e w' => e = .returned (.bool (acc t.size (cB t 0) (cB t 1) (cB t 2))) ∧ Ok8 base K M X H P w w' := by
  obtain ⟨x0, hx0⟩ : ∃ x, x = cB t 0 := ⟨_, rfl⟩
  obtain ⟨x1, hx1⟩ : ∃ x, x = cB t 1 := ⟨_, rfl⟩
  obtain ⟨x2, hx2⟩ : ∃ x, x = cB t 2 := ⟨_, rfl⟩
  rw [← hx0, ← hx1, ← hx2]
  have HX0 := Lib.hid hx0
  have HX1 := Lib.hid hx1
  have HX2 := Lib.hid hx2
  clear hx0 hx1 hx2
  have HL := Lib.hid h
  have HS := Lib.hid hS
  have HP := Lib.hid hP
  have HFF := Lib.hid hF
  have hb0 : Below w.heap.size w ((w.alloc (.cells #[.func (.func 11) #[] #[.pointer (some ⟨K, 0, none⟩), .pointer (some ⟨X, 0, none⟩), .pointer (some ⟨H, 0, none⟩), .pointer (some ⟨M, 0, none⟩)], .func (.func 14) #[] #[.pointer (some ⟨X, 0, none⟩), .pointer (some ⟨H, 0, none⟩)], .func (.func 15) #[] #[.pointer (some ⟨X, 0, none⟩), .pointer (some ⟨M, 0, none⟩)], .func (.func 16) #[] #[.pointer (some ⟨X, 0, none⟩), .pointer (some ⟨M, 0, none⟩)], .int .i8 3, .map none] 33)).alloc (.cells #[.int .i32 0] 50)) := by go_grown
  have hbx := ((Bk.mk w 33 #[.func (.func 11) #[] #[.pointer (some ⟨K, 0, none⟩), .pointer (some ⟨X, 0, none⟩), .pointer (some ⟨H, 0, none⟩), .pointer (some ⟨M, 0, none⟩)], .func (.func 14) #[] #[.pointer (some ⟨X, 0, none⟩), .pointer (some ⟨H, 0, none⟩)], .func (.func 15) #[] #[.pointer (some ⟨X, 0, none⟩), .pointer (some ⟨M, 0, none⟩)], .func (.func 16) #[] #[.pointer (some ⟨X, 0, none⟩), .pointer (some ⟨M, 0, none⟩)], .int .i8 3, .map none]).alloc (.cells #[.int .i32 0] 50))
  have hbl := Bk.mk (w.alloc (.cells #[.func (.func 11) #[] #[.pointer (some ⟨K, 0, none⟩), .pointer (some ⟨X, 0, none⟩), .pointer (some ⟨H, 0, none⟩), .pointer (some ⟨M, 0, none⟩)], .func (.func 14) #[] #[.pointer (some ⟨X, 0, none⟩), .pointer (some ⟨H, 0, none⟩)], .func (.func 15) #[] #[.pointer (some ⟨X, 0, none⟩), .pointer (some ⟨M, 0, none⟩)], .func (.func 16) #[] #[.pointer (some ⟨X, 0, none⟩), .pointer (some ⟨M, 0, none⟩)], .int .i8 3, .map none] 33)) 50 #[.int .i32 0]
  have e0 : ∀ (W : World) (o : Obj), (W.alloc o).heap.size = W.heap.size + 1 := fun W o => by simp
  rw [e0] at hbl
  clear h hS hP hF e0
  unfold logV
  go_enter Tryf.func8, Tryf.ntmps8
  go_upto_if 20 with (fail)
  generalize hw1 : ((w.alloc (.cells #[.func (.func 11) #[] #[.pointer (some ⟨K, 0, none⟩), .pointer (some ⟨X, 0, none⟩), .pointer (some ⟨H, 0, none⟩), .pointer (some ⟨M, 0, none⟩)], .func (.func 14) #[] #[.pointer (some ⟨X, 0, none⟩), .pointer (some ⟨H, 0, none⟩)], .func (.func 15) #[] #[.pointer (some ⟨X, 0, none⟩), .pointer (some ⟨M, 0, none⟩)], .func (.func 16) #[] #[.pointer (some ⟨X, 0, none⟩), .pointer (some ⟨M, 0, none⟩)], .int .i8 3, .map none] 33)).alloc (.cells #[.int .i32 0] 50)) = w1 at *
  have HW1 := Lib.hid hw1
  have HOK : Hid (Ok8 base K M X H P w w1) := Lib.hid (by
    refine ⟨⟨v, ms, 0, by omega, HL.out.below hb0⟩, hb0.mono hbB, ⟨none, HP.out.below hb0 HP.out.lt⟩, fun g cs h => h.below hb0 h.lt⟩)
  clear hw1
  go_cut [11, 12, 13] from 21 to 30 (fun s11 s12 s13 wx => s11 = .int .u8 (x0 : Nat) ∧ s12 = .int .u8 (x1 : Nat) ∧ s13 = .int .u8 (x2 : Nat) ∧ w1 = wx)
  case first =>
    by_cases h0 : 0 < t.size
    · by_cases h1 : 1 < t.size
      · by_cases h2 : 2 < t.size
        · go_wp2_with fail
          go_meet
          simp [HX0.out, HX1.out, HX2.out, cB, h0, h1, h2]
        · go_wp2_with fail
          go_meet
          simp [HX0.out, HX1.out, HX2.out, cB, h0, h1, h2]
      · have h2 : ¬ 2 < t.size := by omega
        go_wp2_with fail
        go_meet
        simp [HX0.out, HX1.out, HX2.out, cB, h0, h1, h2]
    · have h1 : ¬ 1 < t.size := by omega
      have h2 : ¬ 2 < t.size := by omega
      go_wp2_with fail
      go_meet
      simp [HX0.out, HX1.out, HX2.out, cB, h0, h1, h2]
  case rest =>
    obtain ⟨rfl, rfl, rfl, rfl⟩ := hcut
    go_upto_region 11 with (fail)
    go_cut [44] from 31 to 43 (fun s44 wx => s44 = .bool (p1 t.size x0 x1) ∧ w1 = wx)
    case first =>
      by_cases h46 : x0 = 46
      · subst h46
        by_cases hn1 : t.size = 1
        · have e : p1 t.size 46 x1 = true := by simp [p1, hn1]
          have g1 : ((t.size : Int) == 1) = true := by simp; omega
          have HE := Lib.hid e
          clear hn1 e
          go_wp2_with fail
          go_meet
          exact ⟨by rw [HE.out], rfl⟩
        · have g1 : ((t.size : Int) == 1) = false := by simp; omega
          by_cases hn2 : t.size = 2
          · have e : p1 t.size 46 x1 = (x1 == 46) := by simp [p1, hn2]
            have g2 : ((t.size : Int) == 2) = true := by simp; omega
            have g3 : ((x1 : Int) == 46) = (x1 == 46) := by
              rw [Bool.eq_iff_iff]; simp; omega
            have HE := Lib.hid e
            clear hn1 hn2 e
            generalize (x1 == 46) = b1 at *
            go_wp2_with fail
            go_meet
            exact ⟨by rw [HE.out], rfl⟩
          · have e : p1 t.size 46 x1 = false := by simp [p1, hn1, hn2]
            have g2 : ((t.size : Int) == 2) = false := by simp; omega
            have HE := Lib.hid e
            clear hn1 hn2 e
            go_wp2_with fail
            go_meet
            exact ⟨by rw [HE.out], rfl⟩
      · have e : p1 t.size x0 x1 = false := by simp [p1, h46]
        have g1 : ((x0 : Int) == 46) = false := by simp; omega
        have HE := Lib.hid e
        clear e h46
        go_wp2_with fail
        go_meet
        exact ⟨by rw [HE.out], rfl⟩
    case rest =>
      obtain ⟨rfl, rfl⟩ := hcut
      obtain ⟨b1, hb1⟩ : ∃ b, b = p1 t.size x0 x1 := ⟨_, rfl⟩
      rw [← hb1]
      have HB1 := Lib.hid hb1
      clear hb1
      cases b1 with
      | true =>
        go_wp2_with fail
        go_ret
        exact ⟨by rw [acc, ← HB1.out]; rfl, HOK.out⟩
      | false =>
        go_upto_region 13 with (fail)
        go_cut [58] from 45 to 57 (fun s58 wx => s58 = .bool (p2 x0 x1 x2) ∧ w1 = wx)
        case first =>
          by_cases h46 : x0 = 46
          · subst h46
            by_cases hs1 : sl x1 = true
            · have e : p2 46 x1 x2 = true := by simp [p2, hs1]
              have HE := Lib.hid e
              have H1 := fun W => Lib.hid (slash18 x1 W)
              rw [hs1] at H1
              clear e hs1
              go_wp2_with (go_at_call 18; (with_reducible refine (H1 _).out.mono ?_); rintro _ _ ⟨rfl, rfl⟩)
              go_meet
              exact ⟨by rw [HE.out], rfl⟩
            · have hs1 : sl x1 = false := by simpa using hs1
              have H1 := fun W => Lib.hid (slash18 x1 W)
              rw [hs1] at H1
              by_cases h1 : x1 = 46
              · have e : p2 46 x1 x2 = sl x2 := by subst h1; simp [p2, hs1]
                have g1 : ((x1 : Int) == 46) = true := by simp; omega
                have HE := Lib.hid e
                have H2 := fun W => Lib.hid (slash18 x2 W)
                clear e hs1 h1
                generalize sl x2 = b2 at *
                go_wp2_with (first | (go_at_call 18; (with_reducible refine (H1 _).out.mono ?_); rintro _ _ ⟨rfl, rfl⟩) | (go_at_call 18; (with_reducible refine (H2 _).out.mono ?_); rintro _ _ ⟨rfl, rfl⟩))
                go_meet
                exact ⟨by rw [HE.out], rfl⟩
              · have e : p2 46 x1 x2 = false := by simp [p2, hs1, h1]
                have HE := Lib.hid e
                have g1 : ((x1 : Int) == 46) = false := by simp; omega
                clear e hs1 h1
                go_wp2_with (go_at_call 18; (with_reducible refine (H1 _).out.mono ?_); rintro _ _ ⟨rfl, rfl⟩)
                go_meet
                exact ⟨by rw [HE.out], rfl⟩
          · have e : p2 x0 x1 x2 = false := by simp [p2, h46]
            have g1 : ((x0 : Int) == 46) = false := by simp; omega
            have HE := Lib.hid e
            clear e h46
            go_wp2_with fail
            go_meet
            exact ⟨by rw [HE.out], rfl⟩
        case rest =>
          obtain ⟨rfl, rfl⟩ := hcut
          obtain ⟨b2, hb2⟩ : ∃ b, b = p2 x0 x1 x2 := ⟨_, rfl⟩
          rw [← hb2]
          have HB2 := Lib.hid hb2
          clear hb2
          cases b2 with
          | true =>
            go_wp2_with fail
            go_ret
            exact ⟨by rw [acc, ← HB1.out, ← HB2.out]; rfl, HOK.out⟩
          | false =>
            have H0 := fun W => Lib.hid (slash18 x0 W)
            obtain ⟨b3, hb3⟩ : ∃ b, b = sl x0 := ⟨_, rfl⟩
            rw [← hb3] at H0
            have HB3 := Lib.hid hb3
            clear hb3
            cases b3 with
            | true =>
              go_wp2_with (go_at_call 18; (with_reducible refine (H0 _).out.mono ?_); rintro _ _ ⟨rfl, rfl⟩)
              go_ret
              exact ⟨by rw [acc, ← HB1.out, ← HB2.out, ← HB3.out]; rfl, HOK.out⟩
            | false =>
              go_upto_region 17 with (go_at_call 18; (with_reducible refine (H0 _).out.mono ?_); rintro _ _ ⟨rfl, rfl⟩)
              go_cut [82] from 61 to 81 (fun s82 wx => s82 = .bool (p4 x0 x1 x2) ∧ w1 = wx)
              case first =>
                have fin : lt x0 = false → p4 x0 x1 x2 = false := fun h => by simp [p4, h]
                by_cases ha : 97 ≤ x0
                · have i1 : (97 : Int) ≤ (x0 : Int) := by omega
                  by_cases hb : x0 ≤ 122
                  · have i2 : (x0 : Int) ≤ 122 := by omega
                    by_cases h58 : x1 = 58
                    · have g1 : ((x1 : Int) == 58) = true := by simp; omega
                      have e : p4 x0 x1 x2 = sl x2 := by simp [p4, lt, ha, hb, h58]
                      have HE := Lib.hid e
                      have H2 := fun W => Lib.hid (slash18 x2 W)
                      clear e fin ha hb h58
                      generalize sl x2 = b4 at *
                      go_wp2_with (go_at_call 18; (with_reducible refine (H2 _).out.mono ?_); rintro _ _ ⟨rfl, rfl⟩)
                      go_meet
                      exact ⟨by rw [HE.out], rfl⟩
                    · have g1 : ((x1 : Int) == 58) = false := by simp; omega
                      have e : p4 x0 x1 x2 = false := by simp [p4, h58]
                      have HE := Lib.hid e
                      clear e fin ha hb h58
                      go_wp2_with fail
                      go_meet
                      exact ⟨by rw [HE.out], rfl⟩
                  · have i2 : ¬ (x0 : Int) ≤ 122 := by omega
                    have i3 : (65 : Int) ≤ (x0 : Int) := by omega
                    have i4 : ¬ (x0 : Int) ≤ 90 := by omega
                    have HE := Lib.hid (fin (by simp [lt, hb]; omega))
                    clear fin ha hb
                    go_wp2_with fail
                    go_meet
                    exact ⟨by rw [HE.out], rfl⟩
                · have i1 : ¬ (97 : Int) ≤ (x0 : Int) := by omega
                  by_cases hc : 65 ≤ x0
                  · have i3 : (65 : Int) ≤ (x0 : Int) := by omega
                    by_cases hd : x0 ≤ 90
                    · have i4 : (x0 : Int) ≤ 90 := by omega
                      by_cases h58 : x1 = 58
                      · have g1 : ((x1 : Int) == 58) = true := by simp; omega
                        have e : p4 x0 x1 x2 = sl x2 := by simp [p4, lt, ha, hc, hd, h58]
                        have HE := Lib.hid e
                        have H2 := fun W => Lib.hid (slash18 x2 W)
                        clear e fin ha hc hd h58
                        generalize sl x2 = b4 at *
                        go_wp2_with (go_at_call 18; (with_reducible refine (H2 _).out.mono ?_); rintro _ _ ⟨rfl, rfl⟩)
                        go_meet
                        exact ⟨by rw [HE.out], rfl⟩
                      · have g1 : ((x1 : Int) == 58) = false := by simp; omega
                        have e : p4 x0 x1 x2 = false := by simp [p4, h58]
                        have HE := Lib.hid e
                        clear e fin ha hc hd h58
                        go_wp2_with fail
                        go_meet
                        exact ⟨by rw [HE.out], rfl⟩
                    · have i4 : ¬ (x0 : Int) ≤ 90 := by omega
                      have HE := Lib.hid (fin (by simp [lt, ha, hd]))
                      clear fin ha hc hd
                      go_wp2_with fail
                      go_meet
                      exact ⟨by rw [HE.out], rfl⟩
                  · have i3 : ¬ (65 : Int) ≤ (x0 : Int) := by omega
                    have HE := Lib.hid (fin (by simp [lt, ha, hc]))
                    clear fin ha hc
                    go_wp2_with fail
                    go_meet
                    exact ⟨by rw [HE.out], rfl⟩
              case rest =>
                obtain ⟨rfl, rfl⟩ := hcut
                obtain ⟨b4, hb4⟩ : ∃ b, b = p4 x0 x1 x2 := ⟨_, rfl⟩
                rw [← hb4]
                have HB4 := Lib.hid hb4
                clear hb4
                cases b4 with
                | true =>
                  go_wp2_with fail
                  go_ret
                  exact ⟨by rw [acc, ← HB1.out, ← HB2.out, ← HB3.out, ← HB4.out]; rfl, HOK.out⟩
                | false =>
                  have hlS := HS.out.lt
                  have hlP := HP.out.lt
                  have HS1 := Lib.hid (HS.out.below hb0 hlS)
                  have HP1 := Lib.hid (HP.out.below hb0 hlP)
                  have HL1 := Lib.hid (HL.out.below hb0)
                  have hz1 := hb0.size
                  have cL : w1.cell? ⟨w.heap.size + 1, 0, none⟩ = some (.int .i32 0) := hbl.cell 0
                  go_wp2_with fail
                  refine (range19 S w1 HS1.out).mono ?_
                  rintro _ w2 ⟨rfl, hb2⟩
                  have hz2 := hb2.size
                  have HS2 := Lib.hid ((HS1.out.below hb2 HS1.out.lt).alloc (.cells #[.int .i32 0, .int .i32 0] 69))
                  have HP2 := Lib.hid (HP1.out.below hb2 HP1.out.lt)
                  have cP : w2.cell? ⟨P, 0, none⟩ = some (.pointer none) := HP2.out.cell 0
                  have lP : P < w2.heap.size := HP2.out.lt
                  go_wp2_with fail
                  refine (make20 S _ HS2.out).mono ?_
                  rintro _ w4 ⟨rfl, hb4⟩
                  unfold trkCells
                  have hz4 := hb4.size
                  have e1 : (w2.alloc (.cells #[.int .i32 0, .int .i32 0] 69)).heap.size = w2.heap.size + 1 := by simp
                  rw [e1] at hz4
                  have HP4 := Lib.hid ((HP2.out.alloc (.cells #[.int .i32 0, .int .i32 0] 69)).below hb4 (by rw [e1]; omega))
                  have cP4 : w4.cell? ⟨P, 0, none⟩ = some (.pointer none) := HP4.out.cell 0
                  have fP4 := HP4.out.free 0
                  have lP4 : P < w4.heap.size := HP4.out.lt
                  have lP5 : P < w4.heap.size + 1 := by omega
                  clear cP lP
                  go_wp2_with fail
                  have hTK : Bk (w4.setCell ⟨P, 0, none⟩ (.pointer (some ⟨w4.heap.size, 0, none⟩))) w2.heap.size 69 #[.int .i32 0, .int .i32 0] := ((Bk.mk w2 69 #[.int .i32 0, .int .i32 0]).below hb4 (by rw [e1]; omega)).far (p := ⟨P, 0, none⟩) (by show w2.heap.size ≠ P; omega) _
                  have hBX : Bk (w4.setCell ⟨P, 0, none⟩ (.pointer (some ⟨w4.heap.size, 0, none⟩))) w.heap.size 33 #[.func (.func 11) #[] #[.pointer (some ⟨K, 0, none⟩), .pointer (some ⟨X, 0, none⟩), .pointer (some ⟨H, 0, none⟩), .pointer (some ⟨M, 0, none⟩)], .func (.func 14) #[] #[.pointer (some ⟨X, 0, none⟩), .pointer (some ⟨H, 0, none⟩)], .func (.func 15) #[] #[.pointer (some ⟨X, 0, none⟩), .pointer (some ⟨M, 0, none⟩)], .func (.func 16) #[] #[.pointer (some ⟨X, 0, none⟩), .pointer (some ⟨M, 0, none⟩)], .int .i8 3, .map none] := (((hbx.below hb2 hbx.lt).alloc (.cells #[.int .i32 0, .int .i32 0] 69)).below hb4 (by rw [e1]; have := hbx.lt; omega)).far (p := ⟨P, 0, none⟩) (by show w.heap.size ≠ P; omega) _
                  have hL4 : Lg base K M X H 0 v ms 0 (w4.setCell ⟨P, 0, none⟩ (.pointer (some ⟨w4.heap.size, 0, none⟩))) := (((HL1.out.below hb2).below ((Below.refl _ _).alloc (Nat.le_refl _) (.cells #[.int .i32 0, .int .i32 0] 69))).below hb4).fr23 HP4.out ((Fr.refl (fun k => k = P) w4).setCell (p := ⟨P, 0, none⟩) (fun _ => rfl) _)
                  have hKK : ∀ g cs, Bk w g 33 cs → Bk (w4.setCell ⟨P, 0, none⟩ (.pointer (some ⟨w4.heap.size, 0, none⟩))) g 33 cs := fun g cs h => (((((h.below hb0 h.lt).below hb2 (by have := h.lt; omega)).alloc (.cells #[.int .i32 0, .int .i32 0] 69)).below hb4 (by rw [e1]; have := h.lt; omega)).far (p := ⟨P, 0, none⟩) (ne_of_types (w := w) (t := 33) (t' := 23) h HP.out (by decide)) _)
                  have hKK5 := Lib.hid (fun (g : Nat) (cs : Array Value) (h : Bk w g 33 cs) => (hKK g cs h).alloc (.cells (trkCells false) 72))
                  clear hKK
                  have hPP := HP4.out.set 0 (.pointer (some ⟨w4.heap.size, 0, none⟩))
                  have hBB : Below base w (w4.setCell ⟨P, 0, none⟩ (.pointer (some ⟨w4.heap.size, 0, none⟩))) := ((((hb0.mono hbB).trans (hb2.mono (by omega))).alloc (by omega) (.cells #[.int .i32 0, .int .i32 0] 69)).trans (hb4.mono (by rw [e1]; omega))).setCell (p := ⟨P, 0, none⟩) hPb _
                  have hTT := Bk.last (w4.setCell ⟨P, 0, none⟩ (.pointer (some ⟨w4.heap.size, 0, none⟩))) 72 (trkCells false) w4.heap.size (by simp)
                  have hsz5 : w4.heap.size = (w4.setCell ⟨P, 0, none⟩ (.pointer (some ⟨w4.heap.size, 0, none⟩))).heap.size := by simp
                  have hBB5 := Lib.hid (hBB.alloc (by rw [← hsz5]; omega) (.cells (trkCells false) 72))
                  have hL5 := Lib.hid (hL4.below ((Below.refl _ _).alloc (Nat.le_refl _) (.cells (trkCells false) 72)))
                  have hBX5 := hBX.alloc (.cells (trkCells false) 72)
                  have hTK5 := hTK.alloc (.cells (trkCells false) 72)
                  have hPP5 := hPP.alloc (.cells (trkCells false) 72)
                  unfold trkCells at hKK5 hBB5 hL5 hBX5 hTK5 hPP5 hTT
                  clear hTK hBX hL4 hPP hBB cP4 fP4 HL1 HP1 HS1 HS2 HP2 HP4 hbx hbl cL HOK
                  generalize hw5 : ((w4.setCell ⟨P, 0, none⟩ (.pointer (some ⟨w4.heap.size, 0, none⟩))).alloc (.cells #[Value.string ⟨#[]⟩, .string ⟨#[]⟩, .string ⟨#[]⟩, .int .i32 0, .int .i32 0, .int .i32 0, .int .i32 0, .bool true, .bool false, .bool true] 72)) = w5 at *
                  have hz5 : w5.heap.size = w4.heap.size + 1 := by rw [← hw5]; simp
                  clear hw5
                  have g0 : w5.cell? ⟨w.heap.size, 0, none⟩ = some (.func (.func 11) #[] #[.pointer (some ⟨K, 0, none⟩), .pointer (some ⟨X, 0, none⟩), .pointer (some ⟨H, 0, none⟩), .pointer (some ⟨M, 0, none⟩)]) := hBX5.cell 0
                  have g1 : w5.cell? ⟨w.heap.size, 1, none⟩ = some (.func (.func 14) #[] #[.pointer (some ⟨X, 0, none⟩), .pointer (some ⟨H, 0, none⟩)]) := hBX5.cell 1
                  have g2 : w5.cell? ⟨w.heap.size, 2, none⟩ = some (.func (.func 15) #[] #[.pointer (some ⟨X, 0, none⟩), .pointer (some ⟨M, 0, none⟩)]) := hBX5.cell 2
                  have g3 : w5.cell? ⟨w.heap.size, 3, none⟩ = some (.func (.func 16) #[] #[.pointer (some ⟨X, 0, none⟩), .pointer (some ⟨M, 0, none⟩)]) := hBX5.cell 3
                  have g4 : w5.cell? ⟨w.heap.size, 4, none⟩ = some (.int .i8 3) := hBX5.cell 4
                  have g5 : w5.cell? ⟨w.heap.size, 5, none⟩ = some (.map none) := hBX5.cell 5
                  have k0 : w5.cell? ⟨w2.heap.size, 0, none⟩ = some (.int .i32 0) := hTK5.cell 0
                  have k1 : w5.cell? ⟨w2.heap.size, 1, none⟩ = some (.int .i32 0) := hTK5.cell 1
                  have pc : w5.cell? ⟨P, 0, none⟩ = some (.pointer (some ⟨w4.heap.size, 0, none⟩)) := hPP5.cell 0
                  have la : w.heap.size < w5.heap.size := hBX5.lt
                  have lb : w2.heap.size < w5.heap.size := hTK5.lt
                  have lc : P < w5.heap.size := hPP5.lt
                  have la1 : w.heap.size < w5.heap.size + 1 := by omega
                  have lb1 : w2.heap.size < w5.heap.size + 1 := by omega
                  have lc1 : P < w5.heap.size + 1 := by omega
                  have HT5 : Hid (Bk w5 w4.heap.size 72 (trkCells false)) := Lib.hid hTT
                  have HPP5 : Hid (Bk w5 P 23 #[.pointer (some ⟨w4.heap.size, 0, none⟩)]) := Lib.hid hPP5
                  obtain ⟨sp, hsp0⟩ := spr22 F t w5.drew (by show F.told.answers w5.tape; rw [hBB5.out.tape]; exact HFF.out)
                  have hsp : (callFunc 22 #[.string q_f, .slice (some ⟨w5.heap.size, 0, none⟩) 1 1]).run Tryf.prog (w5.alloc (.cells #[.iface 9 (.string t)] 20)).drew = .ok (.value (.string sp)) (w5.alloc (.cells #[.iface 9 (.string t)] 20)).drew.drew := hsp0
                  have hTb : base ≤ w4.heap.size := by omega
                  have hb5 : base ≤ w5.heap.size := by omega
                  have hspA : (callFunc 22 #[.string q_f, .slice (some ⟨w5.heap.size, 0, none⟩) 1 1]).run Tryf.prog (w5.drew.alloc (.cells #[.iface 9 (.string t)] 20)) = .ok (.value (.string sp)) (w5.alloc (.cells #[.iface 9 (.string t)] 20)).drew.drew := hsp0
                  clear hb0 hb2 hb4 e1 hsz5 hz1 hz2 hz4 hPb hbB lP4 lP5 hz5
                  have HBX5 := Lib.hid hBX5
                  have HTK5 := Lib.hid hTK5
                  clear hsp0 hBX5 hTK5 hPP5 hTT
                  have hq : (⟨([78, 111, 110, 45, 114, 101, 108, 97, 116, 105, 118, 101, 32, 112, 97, 116, 104, 32, 37, 113, 32, 105, 115, 32, 110, 111, 116, 32, 97, 108, 108, 111, 119, 101, 100, 32, 119, 104, 101, 110, 32, 34, 98, 97, 115, 101, 85].append [114, 108, 34, 32, 105, 115, 32, 110, 111, 116, 32, 115, 101, 116, 32, 40, 100, 105, 100, 32, 121, 111, 117, 32, 102, 111, 114, 103, 101, 116, 32, 97, 32, 108, 101, 97, 100, 105, 110, 103, 32, 34, 46, 47, 34, 63, 41]).toArray⟩ : ByteArray) = q_f := rfl
                  rw [hq]
                  clear hq
                  go_region_held3 (fun w' => w'.cell? ⟨w.heap.size, 0, none⟩ = some (.func (.func 11) #[] #[.pointer (some ⟨K, 0, none⟩), .pointer (some ⟨X, 0, none⟩), .pointer (some ⟨H, 0, none⟩), .pointer (some ⟨M, 0, none⟩)]) ∧ w'.cell? ⟨w.heap.size, 1, none⟩ = some (.func (.func 14) #[] #[.pointer (some ⟨X, 0, none⟩), .pointer (some ⟨H, 0, none⟩)]) ∧ w'.cell? ⟨w.heap.size, 2, none⟩ = some (.func (.func 15) #[] #[.pointer (some ⟨X, 0, none⟩), .pointer (some ⟨M, 0, none⟩)]) ∧ w'.cell? ⟨w.heap.size, 3, none⟩ = some (.func (.func 16) #[] #[.pointer (some ⟨X, 0, none⟩), .pointer (some ⟨M, 0, none⟩)]) ∧ w'.cell? ⟨w.heap.size, 4, none⟩ = some (.int .i8 3) ∧ w'.cell? ⟨w.heap.size, 5, none⟩ = some (.map none) ∧ w'.cell? ⟨w2.heap.size, 0, none⟩ = some (.int .i32 0) ∧ w'.cell? ⟨w2.heap.size, 1, none⟩ = some (.int .i32 0) ∧ w'.cell? ⟨P, 0, none⟩ = some (.pointer (some ⟨w4.heap.size, 0, none⟩))) (first | (refine ⟨?_, ?_, ?_, ?_, ?_, ?_, ?_, ?_, ?_⟩ <;> assumption) | (simp [go_sem, g0, g1, g2, g3, g4, g5, k0, k1, pc, la, lb, lc]; done) | go_keep) (first | (go_at_call 21; refine (addID (hL5.out.below (by go_grown)) (HT5.out.below (by go_grown : Below w5.heap.size w5 _) HT5.out.lt) hTb sp (by omega) (by simp; omega)).mono ?_; rintro _ wz hA; obtain ⟨rfl, hA2, hA3, hA4⟩ := hA; have z0 : wz.cell? ⟨w.heap.size, 0, none⟩ = some (.func (.func 11) #[] #[.pointer (some ⟨K, 0, none⟩), .pointer (some ⟨X, 0, none⟩), .pointer (some ⟨H, 0, none⟩), .pointer (some ⟨M, 0, none⟩)]) := (hA4 _ 33 _ (.inl rfl) (HBX5.out.below (by go_grown : Below w5.heap.size w5 _) HBX5.out.lt)).cell 0; have z1 : wz.cell? ⟨w.heap.size, 1, none⟩ = some (.func (.func 14) #[] #[.pointer (some ⟨X, 0, none⟩), .pointer (some ⟨H, 0, none⟩)]) := (hA4 _ 33 _ (.inl rfl) (HBX5.out.below (by go_grown : Below w5.heap.size w5 _) HBX5.out.lt)).cell 1; have z2 : wz.cell? ⟨w.heap.size, 2, none⟩ = some (.func (.func 15) #[] #[.pointer (some ⟨X, 0, none⟩), .pointer (some ⟨M, 0, none⟩)]) := (hA4 _ 33 _ (.inl rfl) (HBX5.out.below (by go_grown : Below w5.heap.size w5 _) HBX5.out.lt)).cell 2; have z3 : wz.cell? ⟨w.heap.size, 3, none⟩ = some (.func (.func 16) #[] #[.pointer (some ⟨X, 0, none⟩), .pointer (some ⟨M, 0, none⟩)]) := (hA4 _ 33 _ (.inl rfl) (HBX5.out.below (by go_grown : Below w5.heap.size w5 _) HBX5.out.lt)).cell 3; have z4 : wz.cell? ⟨w.heap.size, 4, none⟩ = some (.int .i8 3) := (hA4 _ 33 _ (.inl rfl) (HBX5.out.below (by go_grown : Below w5.heap.size w5 _) HBX5.out.lt)).cell 4; have z5 : wz.cell? ⟨w.heap.size, 5, none⟩ = some (.map none) := (hA4 _ 33 _ (.inl rfl) (HBX5.out.below (by go_grown : Below w5.heap.size w5 _) HBX5.out.lt)).cell 5; have z6 : wz.cell? ⟨w2.heap.size, 0, none⟩ = some (.int .i32 0) := (hA4 _ 69 _ (.inr (.inr rfl)) (HTK5.out.below (by go_grown : Below w5.heap.size w5 _) HTK5.out.lt)).cell 0; have z7 : wz.cell? ⟨w2.heap.size, 1, none⟩ = some (.int .i32 0) := (hA4 _ 69 _ (.inr (.inr rfl)) (HTK5.out.below (by go_grown : Below w5.heap.size w5 _) HTK5.out.lt)).cell 1; have z8 : wz.cell? ⟨P, 0, none⟩ = some (.pointer (some ⟨w4.heap.size, 0, none⟩)) := (hA4 _ 23 _ (.inr (.inl rfl)) (HPP5.out.below (by go_grown : Below w5.heap.size w5 _) HPP5.out.lt)).cell 0))
                  all_goals
                    go_wp2_with fail
                    go_ret
                    refine ⟨by rw [acc, ← HB1.out, ← HB2.out, ← HB3.out, ← HB4.out]; rfl, ?_, ?_, ?_, ?_⟩
                    · obtain ⟨v', ms', hLz⟩ := hA2
                      exact ⟨v', ms', 0 + 1, by omega, hLz⟩
                    · exact (hBB5.out.trans ((by go_grown : Below w5.heap.size w5 _).mono hb5)).trans hA3
                    · exact ⟨some ⟨w4.heap.size, 0, none⟩, hA4 P 23 #[.pointer (some ⟨w4.heap.size, 0, none⟩)] (.inr (.inl rfl)) (HPP5.out.below (by go_grown : Below w5.heap.size w5 _) HPP5.out.lt)⟩
                    · intro g cs h
                      exact hA4 g 33 cs (.inl rfl) ((hKK5.out g cs h).below (by go_grown : Below w5.heap.size w5 _) (hKK5.out g cs h).lt)
end Go.Proofs.YtlgdojbojlbehaaFmt
