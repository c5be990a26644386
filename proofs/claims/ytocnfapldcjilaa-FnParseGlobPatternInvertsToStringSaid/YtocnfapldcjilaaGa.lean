/-
  The contract of ParseGlobPattern on a printed pattern. No condition.
-/
import Derived.Test.YtocnfapldcjilaaGp
import Derived.Test.YtocnfapldcjilaaShelf
import Derived.WalkMore
import Derived.Handy
namespace Go.Proofs.Ytocnfapldcjilaa
open Go.ChangeShapes Go.WideShapes Go.ChangeAt Go.RowKit
set_option linter.unusedVariables false

theorem info32 : (Try.prog.info? 32).map (fun i => (i.zero, i.size, i.bytes)) = some (some (.agg #[.string ByteArray.empty, .int .u8 0]), 2, 24) := by kernel_rfl
theorem ib19 (s : ByteArray) (r : Int) (h : Lib.indexByte s.data.toList 42 = r) (w : World) :
    Calls Try.prog 19 #[.string s, .int .u8 42] w fun e w' => e = .returned (.int .i64 r) ∧ w = w' :=
  (Try.strings_IndexByte s 42 w).mono fun _ _ ⟨h1, h2⟩ => ⟨by rw [h1, ← h]; rfl, h2.symm⟩
def szOf : Value → Nat | .string x => x.size | _ => 0
def ctOf : Value → Nat | .int _ q => q.toNat | _ => 0
theorem plLast {zs : List ByteArray} {cs : List Int} {n : Nat} (h : Wf zs cs n) {base : Nat} {v : Value} (w2 : World) (q : w2.ownsRow base 32 2 v n (pl zs cs n (n - 1) ++ [.string (Pf zs (n - 1)), .int .u8 0])) : w2.ownsRow base 32 2 v n (pl zs cs n n) := by
  have e : pl zs cs n n = pl zs cs n (n - 1) ++ [.string (Pf zs (n - 1)), .int .u8 0] := by
    have hn := h.1
    obtain ⟨k, rfl⟩ : ∃ k, n = k + 1 := ⟨n - 1, by omega⟩
    have : wv cs (k + 1) k = 0 := by unfold wv; rw [if_neg (by omega)]
    simp [pl, this]
  rw [e]; exact q
/-- A part is appended. -/
theorem appPart {W w : World} {base n : Nat} {v : Value} {xs : List Value} {S : ByteArray} {C : Int} {ops : Array Oper} {rest : List Oper} {o : Oper} {a : Act} {Q : Exit → Act → World → Prop} (hgd : o.guard = none) (s x : Operand)
    (ho : o.op = Op.call { callee := Callee.builtin Builtin.append, args := #[s, x], argTypes := #[29, 29] }) (hs : a.eval s = v) (hx : a.eval x = .slice (some ⟨W.heap.size, 0, none⟩) 1 1)
    (hown : W.ownsRow base 32 2 v n xs) (hb : Below base w W) (hbw : base ≤ w.heap.size) (hn : n ≤ 65536)
    (h : ∀ v' w', Hid (w'.ownsRow base 32 2 v' (n + 1) (xs ++ [.string S, .int .u8 C])) → Hid (Below base w w') → wpList Try.prog ops Q rest (a.put o.dst v') w') :
    wpList Try.prog ops Q (o :: rest) a (W.alloc (.cells #[.string S, .int .u8 C] 32)) := by
  obtain ⟨i0, hi, hz0, hz1, hz2⟩ := info_parts info32
  have hB : base ≤ W.heap.size := Nat.le_trans hbw hb.size
  refine wpList_append_own _ hgd s x 29 ho base 32 i0 (.agg #[.string ByteArray.empty, .int .u8 0]) 2 24 Try.underlying29 hi hz0 hz1 hz2 rfl (by decide) v n xs hs (hown.alloc _) ⟨W.heap.size, 0, none⟩ 1 1 [.string S, .int .u8 C] hx rfl ?_ ?_ ?_ ?_ ?_ ?_
  · intro j u hj
    match j, hj with
    | 0, hj => simp at hj; subst hj; simp [Addr.add]
    | 1, hj => simp at hj; subst hj; simp [Addr.add]
  · intro u hu; simp at hu; rcases hu with rfl | rfl <;> rfl
  · unfold maxLen; omega
  · omega
  · simp; omega
  · intro v' w2 hown' hgrow _
    exact h v' w2 hown' ((hb.alloc hB _).grown hgrow (by simp; omega) (fun k hk => (hown.lt k hk).1))
/-- What the parser gives. -/
def PPost (zs : List ByteArray) (cs : List Int) (n : Nat) (w : World) (e : Ending) (w' : World) : Prop :=
  ∃ v, e = .returned v ∧ w'.ownsRow w.heap.size 32 2 v n (pl zs cs n n) ∧ Below w.heap.size w w'
set_option maxRecDepth 100000 in
set_option maxHeartbeats 8000000 in
theorem parse11 (zs : List ByteArray) (cs : List Int) (n : Nat) (t : ByteArray) (h : Wf zs cs n) (ht : t.data.toList = tx zs cs n n) (hn : n ≤ 65536) (hs : t.size ≤ 2097152) (w : World) :
    Calls Try.prog 11 #[.string t] w (PPost zs cs n w) := by
  obtain ⟨i0, hi, hz0, hz1, hz2⟩ := info_parts info32
  have HI := Lib.hid hi
  have HZ0 := Lib.hid hz0
  have HZ1 := Lib.hid hz1
  have HZ2 := Lib.hid hz2
  have HW := Lib.hid h
  have HT := Lib.hid ht
  have hn1 := h.1
  clear hi hz0 hz1 hz2 h ht
  go_enter Try.func11, Try.ntmps11
  go_wp2_with fail
  go_loopw [0, 2] (fun s v' wr' => ∃ (m : Nat) (x : ByteArray) (v : Value) (wr : World), v = v' ∧ wr = wr' ∧ m + 1 ≤ n ∧ s = .string x ∧ Hid (x.data.toList = tx zs cs n (m + 1)) ∧ x.size ≤ 2097152 ∧ Hid (wr.ownsRow w.heap.size 32 2 v (n - 1 - m) (pl zs cs n (n - 1 - m))) ∧ Hid (Below w.heap.size w wr)) (fun s _ _ => szOf s)
  case atStart => exact ⟨n - 1, t, _, _, rfl, rfl, by omega, rfl, by rw [show n - 1 + 1 = n by omega]; exact HT.out, hs, by rw [show n - 1 - (n - 1) = 0 by omega]; exact World.ownsRow_nil _ _ _ _, Below.refl _ _⟩
  case round =>
    clear HT hs
    obtain ⟨m, x, v, wr, rfl, rfl, hm, rfl, HX, hxs, HO, HBl⟩ := hrel
    cases m with
    | zero =>
      obtain ⟨e1, e2⟩ := lastRd HW.out HX.out
      have HE1 := Lib.hid e1
      have HIx := Lib.hid e2
      clear e1 e2
      go_wp2_with (first | (go_at_call 19; (with_reducible refine (ib19 _ _ HIx.out _).mono ?_); rintro e w' ⟨rfl, rfl⟩) | (at_builtin; refine appPart rfl _ _ rfl rfl rfl HO.out HBl.out (Nat.le_refl _) (by omega) ?_; intro v' w2 HO2 HG2))
      go_wp2_with fail
      go_ret
      refine ⟨v', rfl, ?_, HG2.out⟩
      have q : w2.ownsRow w.heap.size 32 2 v' (n - 1 + 1) (pl zs cs n (n - 1) ++ [.string x, .int .u8 0]) := HO2.out
      rw [HE1.out, show n - 1 + 1 = n by omega] at q
      exact plLast HW.out _ q
    | succ m =>
      obtain ⟨y, hy⟩ : ∃ y, y = Pf zs (n - 2 - m) := ⟨_, rfl⟩
      obtain ⟨t', ht'⟩ : ∃ t' : ByteArray, t'.data.toList = tx zs cs n (m + 1) := ⟨⟨(tx zs cs n (m + 1)).toArray⟩, rfl⟩
      obtain ⟨c, hcw⟩ : ∃ c, c = wv cs n (n - 2 - m) := ⟨_, rfl⟩
      have et : t' = ⟨(tx zs cs n (m + 1)).toArray⟩ := ba_ext ht'
      have R := theRd HW.out (by omega) HX.out
      rw [← et, ← hy, ← hcw] at R
      have HPl : Hid (∀ (w2 : World) (v' : Value), w2.ownsRow w.heap.size 32 2 v' (n - 1 - m) (pl zs cs n (n - 2 - m) ++ [.string y, .int .u8 c]) → w2.ownsRow w.heap.size 32 2 v' (n - 1 - m) (pl zs cs n (n - 1 - m))) := fun w2 v' q => by
        rw [show n - 1 - m = n - 2 - m + 1 by omega] at q ⊢
        rw [hy, hcw] at q
        exact q
      rw [show n - 1 - (m + 1) = n - 2 - m by omega] at HO
      have HT' : Hid (t'.data.toList = tx zs cs n (m + 1)) := ht'
      have HIx := Lib.hid R.idx
      have HPr := Lib.hid R.pref
      have HRe := Lib.hid R.rest
      have hsz := R.size
      have hstar := R.star
      have hnext := R.next
      have hslp := R.slp
      have hsln := R.sln
      have hc := R.cpos
      have hnm : n - 2 - m + 1 = n - 1 - m := by omega
      clear R ht' et hy hcw
      generalize y.size = a at *
      rcases hc with rfl | rfl
      · have hat := B_at x (a + 1)
        generalize B x (a + 1) = u at *
        clear hstar hslp hsln
        by_cases h0 : 0 < t'.size
        · have hat := hat (by omega)
          have hu : ((u : Int) == 42) = false := by have := hnext h0; simp; omega
          clear hnext
          go_wp2_with (go_at_call 19; (with_reducible refine (ib19 _ _ HIx.out _).mono ?_); rintro e w' ⟨rfl, rfl⟩)
          go_loop [4] (fun j => j = .int .i64 1) (fun _ => 0)
          case atStart => rfl
          case round =>
            obtain rfl := hrel
            go_wp2_with (first | (go_at_call 19; (with_reducible refine (ib19 _ _ HIx.out _).mono ?_); rintro e w' ⟨rfl, rfl⟩) | (at_builtin; refine appPart rfl _ _ rfl rfl rfl HO.out HBl.out (Nat.le_refl _) (by omega) ?_; intro v' w2 HO2 HG2))
            go_wp2_with fail
            have hq := HRe.out
            first | rw [hsz] at hq | skip
            first | rw [hxa] at hq | skip
            refine ⟨⟨m, t', v', w2, by trivial, by trivial, by omega, by first | rw [hq] | rw [show ByteArray.empty = t' by simpa using hq], HT'.out, by omega, ?_, HG2.out⟩, ?_⟩
            · have q := HO2.out
              first | rw [HPr.out, hnm] at q | rw [show ByteArray.empty = y by simpa using HPr.out, hnm] at q
              exact HPl.out _ _ q
            · first | rw [hq] | rw [show ByteArray.empty = t' by simpa using hq]
              show t'.size < x.size
              omega
        · have hxa : x.size = a + 1 := by omega
          clear hat hnext
          go_wp2_with (go_at_call 19; (with_reducible refine (ib19 _ _ HIx.out _).mono ?_); rintro e w' ⟨rfl, rfl⟩)
          go_loop [4] (fun j => j = .int .i64 1) (fun _ => 0)
          case atStart => rfl
          case round =>
            obtain rfl := hrel
            go_wp2_with (first | (go_at_call 19; (with_reducible refine (ib19 _ _ HIx.out _).mono ?_); rintro e w' ⟨rfl, rfl⟩) | (at_builtin; refine appPart rfl _ _ rfl rfl rfl HO.out HBl.out (Nat.le_refl _) (by omega) ?_; intro v' w2 HO2 HG2))
            go_wp2_with fail
            have hq := HRe.out
            first | rw [hsz] at hq | skip
            first | rw [hxa] at hq | skip
            refine ⟨⟨m, t', v', w2, by trivial, by trivial, by omega, by first | rw [hq] | rw [show ByteArray.empty = t' by simpa using hq], HT'.out, by omega, ?_, HG2.out⟩, ?_⟩
            · have q := HO2.out
              first | rw [HPr.out, hnm] at q | rw [show ByteArray.empty = y by simpa using HPr.out, hnm] at q
              exact HPl.out _ _ q
            · first | rw [hq] | rw [show ByteArray.empty = t' by simpa using hq]
              show t'.size < x.size
              omega
      · have h0a := hstar 0 (by omega)
        have h1a := hstar 1 (by omega)
        have hat1 := B_at x (a + 1)
        rw [h1a] at hat1
        have hat2 := B_at x (a + 2)
        have hatm := B_at x (a - 1)
        have hslp := hslp rfl
        have hsln := hsln rfl
        clear hstar h0a h1a
        generalize B x (a + 2) = u at *
        generalize B x (a - 1) = r at *
        have htb : t'.size ≤ 2097152 := by omega
        by_cases h0 : 0 < t'.size
        · have hat1 := hat1 (by omega)
          have hat2 := hat2 (by omega)
          have hu : ((u : Int) == 42) = false := by have := hnext h0; simp; omega
          have hsu := hsln h0
          clear hnext hsln
          by_cases ha0 : 0 < a
          · obtain ⟨a', rfl⟩ : ∃ a', a = a' + 1 := ⟨a - 1, by omega⟩
            have hatm := hatm (by omega)
            have hsr := hslp ha0
            clear hslp
            simp only [Nat.add_sub_cancel] at hatm
            rcases hsr with rfl | rfl <;> rcases hsu with rfl | rfl
            all_goals
              go_wp2_with (go_at_call 19; (with_reducible refine (ib19 _ _ HIx.out _).mono ?_); rintro e w' ⟨rfl, rfl⟩)
              go_loop [4] (fun j => j = .int .i64 1 ∨ j = .int .i64 2) (fun j => 2 - ctOf j)
              case atStart => exact .inl rfl
              case round =>
                rcases hrel with rfl | rfl
                · go_wp2_with fail
                  go_round
                  case rel => exact .inr rfl
                  case measure => simp [ctOf]
                · go_wp2_with (first | (go_at_call 19; (with_reducible refine (ib19 _ _ HIx.out _).mono ?_); rintro e w' ⟨rfl, rfl⟩) | (at_builtin; refine appPart rfl _ _ rfl rfl rfl HO.out HBl.out (Nat.le_refl _) (by omega) ?_; intro v' w2 HO2 HG2))
                  go_wp2_with fail
                  have hq := HRe.out
                  first | rw [hsz] at hq | skip
                  first | rw [hxa] at hq | skip
                  refine ⟨⟨m, t', v', w2, by trivial, by trivial, by omega, by first | rw [hq] | rw [show ByteArray.empty = t' by simpa using hq], HT'.out, by omega, ?_, HG2.out⟩, ?_⟩
                  · have q := HO2.out
                    first | rw [HPr.out, hnm] at q | rw [show ByteArray.empty = y by simpa using HPr.out, hnm] at q
                    exact HPl.out _ _ q
                  · first | rw [hq] | rw [show ByteArray.empty = t' by simpa using hq]
                    show t'.size < x.size
                    omega
          · obtain rfl : a = 0 := by omega
            clear hslp hatm
            rcases hsu with rfl | rfl
            all_goals
              go_wp2_with (go_at_call 19; (with_reducible refine (ib19 _ _ HIx.out _).mono ?_); rintro e w' ⟨rfl, rfl⟩)
              go_loop [4] (fun j => j = .int .i64 1 ∨ j = .int .i64 2) (fun j => 2 - ctOf j)
              case atStart => exact .inl rfl
              case round =>
                rcases hrel with rfl | rfl
                · go_wp2_with fail
                  go_round
                  case rel => exact .inr rfl
                  case measure => simp [ctOf]
                · go_wp2_with (first | (go_at_call 19; (with_reducible refine (ib19 _ _ HIx.out _).mono ?_); rintro e w' ⟨rfl, rfl⟩) | (at_builtin; refine appPart rfl _ _ rfl rfl rfl HO.out HBl.out (Nat.le_refl _) (by omega) ?_; intro v' w2 HO2 HG2))
                  go_wp2_with fail
                  have hq := HRe.out
                  first | rw [hsz] at hq | skip
                  first | rw [hxa] at hq | skip
                  refine ⟨⟨m, t', v', w2, by trivial, by trivial, by omega, by first | rw [hq] | rw [show ByteArray.empty = t' by simpa using hq], HT'.out, by omega, ?_, HG2.out⟩, ?_⟩
                  · have q := HO2.out
                    first | rw [HPr.out, hnm] at q | rw [show ByteArray.empty = y by simpa using HPr.out, hnm] at q
                    exact HPl.out _ _ q
                  · first | rw [hq] | rw [show ByteArray.empty = t' by simpa using hq]
                    show t'.size < x.size
                    omega
        · have hxa : x.size = a + 2 := by omega
          have ht0 : t'.size = 0 := by omega
          clear hsz h0
          have hat1 := hat1 (by omega)
          clear hnext hsln hat2
          by_cases ha0 : 0 < a
          · obtain ⟨a', rfl⟩ : ∃ a', a = a' + 1 := ⟨a - 1, by omega⟩
            have hatm := hatm (by omega)
            have hsr := hslp ha0
            clear hslp
            simp only [Nat.add_sub_cancel] at hatm
            rcases hsr with rfl | rfl
            all_goals
              go_wp2_with (go_at_call 19; (with_reducible refine (ib19 _ _ HIx.out _).mono ?_); rintro e w' ⟨rfl, rfl⟩)
              go_loop [4] (fun j => j = .int .i64 1 ∨ j = .int .i64 2) (fun j => 2 - ctOf j)
              case atStart => exact .inl rfl
              case round =>
                rcases hrel with rfl | rfl
                · go_wp2_with fail
                  go_round
                  case rel => exact .inr rfl
                  case measure => simp [ctOf]
                · go_wp2_with (first | (go_at_call 19; (with_reducible refine (ib19 _ _ HIx.out _).mono ?_); rintro e w' ⟨rfl, rfl⟩) | (at_builtin; refine appPart rfl _ _ rfl rfl rfl HO.out HBl.out (Nat.le_refl _) (by omega) ?_; intro v' w2 HO2 HG2))
                  go_wp2_with fail
                  have hq := HRe.out
                  first | rw [hsz] at hq | skip
                  first | rw [hxa] at hq | skip
                  refine ⟨⟨m, t', v', w2, by trivial, by trivial, by omega, by first | rw [hq] | rw [show ByteArray.empty = t' by simpa using hq], HT'.out, by omega, ?_, HG2.out⟩, ?_⟩
                  · have q := HO2.out
                    first | rw [HPr.out, hnm] at q | rw [show ByteArray.empty = y by simpa using HPr.out, hnm] at q
                    exact HPl.out _ _ q
                  · first | rw [hq] | rw [show ByteArray.empty = t' by simpa using hq]
                    show t'.size < x.size
                    omega
          · obtain rfl : a = 0 := by omega
            clear hslp hatm
            go_wp2_with (go_at_call 19; (with_reducible refine (ib19 _ _ HIx.out _).mono ?_); rintro e w' ⟨rfl, rfl⟩)
            go_loop [4] (fun j => j = .int .i64 1 ∨ j = .int .i64 2) (fun j => 2 - ctOf j)
            case atStart => exact .inl rfl
            case round =>
              rcases hrel with rfl | rfl
              · go_wp2_with fail
                go_round
                case rel => exact .inr rfl
                case measure => simp [ctOf]
              · go_wp2_with (first | (go_at_call 19; (with_reducible refine (ib19 _ _ HIx.out _).mono ?_); rintro e w' ⟨rfl, rfl⟩) | (at_builtin; refine appPart rfl _ _ rfl rfl rfl HO.out HBl.out (Nat.le_refl _) (by omega) ?_; intro v' w2 HO2 HG2))
                go_wp2_with fail
                have hq := HRe.out
                first | rw [hsz] at hq | skip
                first | rw [hxa] at hq | skip
                refine ⟨⟨m, t', v', w2, by trivial, by trivial, by omega, by first | rw [hq] | rw [show ByteArray.empty = t' by simpa using hq], HT'.out, by omega, ?_, HG2.out⟩, ?_⟩
                · have q := HO2.out
                  first | rw [HPr.out, hnm] at q | rw [show ByteArray.empty = y by simpa using HPr.out, hnm] at q
                  exact HPl.out _ _ q
                · first | rw [hq] | rw [show ByteArray.empty = t' by simpa using hq]
                  show t'.size < x.size
                  omega
end Go.Proofs.Ytocnfapldcjilaa
