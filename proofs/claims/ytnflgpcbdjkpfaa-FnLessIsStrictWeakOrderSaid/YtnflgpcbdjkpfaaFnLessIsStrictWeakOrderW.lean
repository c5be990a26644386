/-
  The law FnLessIsStrictWeakOrder's walk. No condition.
-/
import Derived.Test.YtnflgpcbdjkpfaaKeyed
namespace Go.Proofs.Ytnflgpcbdjkpfaa.fnLessIsStrictWeakOrder
open Go.ChangeShapes Go.WideShapes Go.ChangeAt Go.RowKit
set_option linter.unusedVariables false

def zent : Array Value := #[.string ByteArray.empty, .string ByteArray.empty, .slice none 0 0, .slice none 0 0, .slice none 0 0, .int .i32 0, .int .i32 0, .int .u8 0, .int .i32 0, .int .i32 0]
theorem info77 : (Try.prog.info? 77).map (fun i => (i.zero, i.size, i.bytes)) = some (some (Value.agg zent), 10, 128) := by kernel_rfl
theorem mk45 (u : World) : (Instr.makeSlice 45 (.int .i64 3) (.int .i64 3)).run Try.prog u =
        .ok (.slice (some ⟨u.heap.size, 0, none⟩) 3 3) (u.alloc (.cells (madeCells zent 30) 77)) := by
  obtain ⟨i0, hi, hz0, hz1, hz2⟩ := info_parts info77
  have q := run_make (P := Try.prog) u 45 77 i0 (.agg zent) Try.underlying45 hi hz0 .i64 .i64 3 3 (by omega) (Int.le_refl _) (by rw [hz2]; omega) (by omega)
  simpa [hz1, Value.cells] using q
theorem itoaK (k : Nat) (hk : k < 3) (w : World) : Calls Try.prog 17 #[.int .i64 k] w fun e w' => (∃ t, e = .returned (.string t)) ∧ Below w.heap.size w w' := by
  rcases (by omega : k = 0 ∨ k = 1 ∨ k = 2) with rfl | rfl | rfl
  · exact itoa0 w
  · exact itoa1 w
  · exact itoa2 w
structure Inv (w wr : World) (K k : Nat) (key : Nat → ByteArray) (val : Nat → Value) : Prop where
  o : Own wr K 30 val
  b : Below w.heap.size w wr
  d : ∀ p, p < k → val (p * 10) = .string (key p)
theorem Inv.below {w wr w' : World} {K k : Nat} {key : Nat → ByteArray} {val : Nat → Value} (h : Inv w wr K k key val) (hb : Below wr.heap.size wr w') : Inv w w' K k key val :=
  ⟨h.o.below hb h.o.size, h.b.trans (hb.mono h.b.size), h.d⟩
theorem start (w : World) (key : Nat → ByteArray) : ∃ val, Inv w (w.alloc (.cells (madeCells zent 30) 77)) w.heap.size 0 key val := by
  refine ⟨fun j => (madeCells zent 30)[j]!, ⟨by simp, fun j => by simp [go_sem], fun j hj => ?_⟩, (Below.refl _ _).alloc (Nat.le_refl _) _, fun p hp => absurd hp (by omega)⟩
  rw [World.cell?_alloc_new, getElem!_pos _ _ (by rw [size_madeCells]; exact hj)]
  exact Array.getElem?_eq_getElem _
theorem held {w wr : World} {K k : Nat} {key : Nat → ByteArray} {val : Nat → Value} {A : Nat} {x : ByteArray} (hA : A < w.heap.size) (hc : w.cell? ⟨A, k, none⟩ = some (.string x)) (h : Inv w wr K k key val) : wr.cell? ⟨A, k, none⟩ = some (.string x) ∧ ∃ val, Inv w wr K k key val :=
  ⟨by rw [h.b.cell (p := ⟨A, k, none⟩) hA]; exact hc, _, h⟩
theorem Inv.drew {w wr : World} {K k : Nat} {key : Nat → ByteArray} {val : Nat → Value} (h : Inv w wr K k key val) : Inv w wr.drew K k key val := ⟨h.o.drew, h.b.drew, h.d⟩
theorem below_setCells {n : Nat} {a : World} (b : Nat) (hb : n ≤ b) : ∀ (vs : List Value) (o : Nat) (w : World), Below n a w → Below n a (w.setCells b o vs)
  | [], _, _, h => h
  | v :: r, o, w, h => below_setCells b hb r (o + 1) (w.setCell ⟨b, o, none⟩ v) (h.setCell (p := ⟨b, o, none⟩) hb v)
theorem size_setCells (b : Nat) : ∀ (vs : List Value) (o : Nat) (w : World), (w.setCells b o vs).heap.size = w.heap.size
  | [], _, _ => rfl
  | v :: r, o, w => (size_setCells b r (o + 1) (w.setCell ⟨b, o, none⟩ v)).trans (by simp)
theorem stored {w wr : World} {K k : Nat} {key : Nat → ByteArray} {val : Nat → Value} (t : ByteArray) (h : Inv w wr K k key val) (hk : k < 3) (hK : w.heap.size ≤ K) :
    ∃ wd, (storeCells ⟨K, k * 10, none⟩ (kent (key k) t).toList).run Try.prog wr = .ok () wd ∧ ∃ val', Inv w wd K (k + 1) key val' := by
  have hl : (kent (key k) t).toList.length = 10 := rfl
  have hsome : ∀ j, j < (kent (key k) t).toList.length → (wr.cell? ⟨K, k * 10 + j, none⟩).isSome = true := fun j hj => by
    rw [h.o.cell (k * 10 + j) (by omega)]; rfl
  have hrun := run_storeCells_cells (P := Try.prog) K (k * 10) (kent (key k) t).toList 0 wr (fun j hj => hsome j hj) (fun j hj => h.o.free _) (by
    intro v hv
    simp [kent] at hv
    rcases hv with rfl | rfl | rfl | rfl | rfl | rfl | rfl | rfl | rfl | rfl <;> rfl)
  rw [Nat.add_zero] at hrun
  refine ⟨_, hrun, fun j => if hj : k * 10 ≤ j ∧ j < k * 10 + 10 then (kent (key k) t).toList[j - k * 10]'(by omega) else val j, ⟨by rw [size_setCells]; exact h.o.size, fun j => by rw [World.frozen?_setCells]; exact h.o.free j, fun j hj => ?_⟩, below_setCells K hK _ _ _ h.b, fun p hp => ?_⟩
  · by_cases e : k * 10 ≤ j ∧ j < k * 10 + 10
    · rw [dif_pos e]
      have := World.cell?_setCells_in K (kent (key k) t).toList (k * 10) wr hsome (j - k * 10) (by omega)
      rwa [show k * 10 + (j - k * 10) = j by omega] at this
    · rw [dif_neg e, World.cell?_setCells_out K _ _ _ _ (by intro _ _; simp only; omega)]
      exact h.o.cell j hj
  · by_cases e : p = k
    · subst e
      rw [dif_pos (by omega)]
      simp [kent]
    · rw [dif_neg (by omega)]
      exact h.d p (by omega)
theorem Inv.less {w wr : World} {K k : Nat} {key : Nat → ByteArray} {val : Nat → Value} (h : Inv w wr K (k + 1) key val) : Inv w wr K k key val := ⟨h.o, h.b, fun p hp => h.d p (by omega)⟩
set_option maxRecDepth 100000 in
set_option maxHeartbeats 2000000 in
theorem keyed (A : Nat) (key : Nat → ByteArray) (w : World) (hA : A < w.heap.size) (hk : ∀ i, i < 3 → w.cell? ⟨A, i, none⟩ = some (.string (key i))) :
    Calls Try.prog 12 #[.slice (some ⟨A, 0, none⟩) 3 3] w fun e w' => ∃ K, e = .returned (.slice (some ⟨K, 0, none⟩) 3 3) ∧ (∀ p, p < 3 → w'.cell? ⟨K, p * 10, none⟩ = some (.string (key p))) ∧ Below w.heap.size w w' := by
  have hmk := mk45
  have HK := Lib.hid hk
  have HS := Lib.hid (start w key)
  clear hk
  go_enter Try.func12, Try.ntmps12
  go_wp2
  clear hmk
  go_loopw [4] (fun i wr => ∃ k : Nat, k ≤ 3 ∧ i = .int .i64 k ∧ ∃ val, Inv w wr w.heap.size k key val) (fun i _ => 3 - (intOf i).toNat)
  case atStart => exact ⟨0, Nat.zero_le _, rfl, HS.out⟩
  case round =>
    clear HS
    obtain ⟨k, hk, rfl, val, hi⟩ := hrel
    by_cases hlt : k < 3
    · have hc := HK.out k hlt
      have hh := held hA hc hi
      go_wp2
      go_region_held3 (fun w' => w'.cell? ⟨A, k, none⟩ = some (.string (key k)) ∧ ∃ val, Inv w w' w.heap.size k key val) (first | assumption | exact held hA hc hi.drew) (first
        | (go_at_call 17; (with_reducible refine (itoaK k hlt _).mono ?_); rintro _ wa ⟨⟨t, rfl⟩, hwa⟩; have hia := hi.drew.below hwa; have hha := held hA hc hia)
        | (go_at_call 16; (with_reducible refine (entry16 t _).mono ?_); rintro _ wb ⟨rfl, hwb⟩; have hib := hia.below hwb; have hhb := held hA hc hib)
        | (go_at_call 15; (with_reducible refine (entry15 (key k) t _).mono ?_); rintro _ wc ⟨rfl, hwc⟩; have hic := hib.below hwc; have hhc := held hA hc hic; obtain ⟨wd, hst, val', hid⟩ := stored t hic hlt (Nat.le_refl _); have hhd := held hA hc hid.less))
      go_wp2
      exact ⟨⟨k + 1, by omega, by go_num, val', hid⟩, by simp [intOf]; omega⟩
    · have : k = 3 := by omega
      subst this
      go_wp2
      go_ret
      exact ⟨_, rfl, fun p hp => by rw [hi.o.cell (p * 10) (by omega), hi.d p hp], hi.b⟩
def L (key : Nat → ByteArray) (p q : Nat) : Bool := lt (ix (key p)) (key p).size (ix (key q)) (key q).size
theorem L_self (key : Nat → ByteArray) (p : Nat) : L key p p = false := lt_irrefl _ _
theorem L_tri (key : Nat → ByteArray) (p q : Nat) : (L key p q = true ∧ L key q p = false) ∨ (L key p q = false ∧ L key q p = true) ∨ (L key p q = false ∧ L key q p = false) := by
  cases h : L key p q
  · cases g : L key q p
    · exact .inr (.inr ⟨rfl, rfl⟩)
    · exact .inr (.inl ⟨rfl, rfl⟩)
  · exact .inl ⟨rfl, lt_asymm _ _ _ _ h⟩
def three (x y z : ByteArray) (i : Nat) : ByteArray := if i = 0 then x else if i = 1 then y else z
set_option maxRecDepth 100000 in
set_option maxHeartbeats 4000000 in
theorem main (x y z : ByteArray) (w : World) (hx : x.size ≤ 262144) (hy : y.size ≤ 262144) (hz : z.size ≤ 262144) :
    Calls Try.prog 4 #[.string x, .string y, .string z] w fun e w' => e = .returned (.bool true) ∧ Below w.heap.size w w' := by
  have hkey : ∀ i, i < 3 → (w.alloc (.cells #[.string x, .string y, .string z] 9)).cell? ⟨w.heap.size, i, none⟩ = some (.string (three x y z i)) := by
    intro i hi
    rcases (by omega : i = 0 ∨ i = 1 ∨ i = 2) with rfl | rfl | rfl <;> simp [go_sem, three]
  have hsz : ∀ i, (three x y z i).size ≤ 1048576 := by
    intro i; unfold three; split; omega; split <;> omega
  have HKD := Lib.hid (keyed w.heap.size (three x y z) _ (by simp) hkey)
  have HSZ := Lib.hid hsz
  clear hkey hsz
  generalize three x y z = key at *
  go_enter Try.func4, Try.ntmps4
  go_wp2_with (first
    | (go_at_call 12; (with_reducible refine HKD.out.mono ?_); rintro _ wk ⟨K, rfl, hcell, hbk⟩)
    | go_in)
  have hbw : Below w.heap.size w wk := ((Below.refl _ w).alloc (Nat.le_refl _) _).trans (hbk.mono (by simp))
  have HL : Hid (∀ p q r, p < 3 → q < 3 → L key p q = r → Calls Try.prog 13 #[.slice (some ⟨K, 0, none⟩) 3 3, .int .i64 p, .int .i64 q] wk fun e w' => e = .returned (.bool r) ∧ wk = w') := fun p q r hp hq hr => by
    rw [← hr]
    exact less13 K p q (key p) (key q) wk hp hq (hcell p hp) (hcell q hq) (HSZ.out p) (HSZ.out q)
  have HT := Lib.hid (L_tri key)
  have HTR : Hid (∀ p q s, L key p q = true → L key q s = true → L key p s = true) := fun p q s h g => lt_trans _ _ _ _ _ _ h g
  have HIN : Hid (∀ p q s, L key p q = false → L key q p = false → L key q s = false → L key s q = false → L key p s = false) := fun p q s a b c d => lt_inc _ _ _ _ _ _ a b c d
  have HSF := Lib.hid (L_self key)
  clear hcell HKD hbk
  go_loopw [8] (fun i wr => wk = wr ∧ ∃ p : Nat, p ≤ 3 ∧ i = .int .i64 p) (fun i _ => 3 - (intOf i).toNat)
  case atStart => exact ⟨by trivial, 0, Nat.zero_le _, rfl⟩
  case round =>
    obtain ⟨rfl, p, hp3, rfl⟩ := hrel
    by_cases hp : p < 3
    · go_wp2_with (go_at_call 13; (with_reducible refine (HL.out p p _ hp hp (HSF.out p)).mono ?_); rintro _ _ ⟨rfl, rfl⟩)
      go_loopw [9] (fun i wr => wk = wr ∧ ∃ q : Nat, q ≤ 3 ∧ i = .int .i64 q) (fun i _ => 3 - (intOf i).toNat)
      case atStart => exact ⟨by trivial, 0, Nat.zero_le _, rfl⟩
      case round =>
        obtain ⟨rfl, q, hq3, rfl⟩ := hrel
        by_cases hq : q < 3
        · rcases HT.out p q with ⟨e1, e2⟩ | ⟨e1, e2⟩ | ⟨e1, e2⟩
          all_goals
            have E1 := Lib.hid e1
            have E2 := Lib.hid e2
            clear e1 e2
            go_wp2_with (first | (go_at_call 13; (with_reducible refine (HL.out p q _ hp hq E1.out).mono ?_); rintro _ _ ⟨rfl, rfl⟩) | (go_at_call 13; (with_reducible refine (HL.out q p _ hq hp E2.out).mono ?_); rintro _ _ ⟨rfl, rfl⟩))
            go_loopw [12] (fun i wr => wk = wr ∧ ∃ s : Nat, s ≤ 3 ∧ i = .int .i64 s) (fun i _ => 3 - (intOf i).toNat)
            case atStart => exact ⟨by trivial, 0, Nat.zero_le _, rfl⟩
            case round =>
              obtain ⟨rfl, s, hs3, rfl⟩ := hrel
              by_cases hs : s < 3
              · rcases HT.out q s with ⟨f1, f2⟩ | ⟨f1, f2⟩ | ⟨f1, f2⟩ <;> rcases HT.out p s with ⟨g1, g2⟩ | ⟨g1, g2⟩ | ⟨g1, g2⟩
                all_goals
                  have F1 := Lib.hid f1
                  have F2 := Lib.hid f2
                  have G1 := Lib.hid g1
                  have G2 := Lib.hid g2
                  clear f1 f2 g1 g2
                  first
                    | (have k := HTR.out p q s E1.out F1.out; rw [G1.out] at k; cases k; done)
                    | (have k := HIN.out p q s E1.out E2.out F1.out F2.out; rw [G1.out] at k; cases k; done)
                    | (have k := HIN.out s q p F2.out F1.out E2.out E1.out; rw [G2.out] at k; cases k; done)
                    | (go_wp2_with (first | (go_at_call 13; (with_reducible refine (HL.out q s _ hq hs F1.out).mono ?_); rintro _ _ ⟨rfl, rfl⟩) | (go_at_call 13; (with_reducible refine (HL.out s q _ hs hq F2.out).mono ?_); rintro _ _ ⟨rfl, rfl⟩) | (go_at_call 13; (with_reducible refine (HL.out p s _ hp hs G1.out).mono ?_); rintro _ _ ⟨rfl, rfl⟩) | (go_at_call 13; (with_reducible refine (HL.out s p _ hs hp G2.out).mono ?_); rintro _ _ ⟨rfl, rfl⟩))
                       exact ⟨⟨by trivial, s + 1, by omega, by go_num⟩, by simp [intOf]; omega⟩)
              · have : s = 3 := by omega
                subst this
                go_wp2
                exact ⟨⟨by trivial, q + 1, by omega, by go_num⟩, by simp [intOf]; omega⟩
        · have : q = 3 := by omega
          subst this
          go_wp2
          exact ⟨⟨by trivial, p + 1, by omega, by go_num⟩, by simp [intOf]; omega⟩
    · have : p = 3 := by omega
      subst this
      go_wp2
      go_ret
      exact ⟨rfl, hbw⟩
set_option maxHeartbeats 1000000 in
theorem walk (a0 : ByteArray) (a1 : ByteArray) (a2 : ByteArray) (w : World) (w0 : a0.size ≤ maxLen) (w1 : a1.size ≤ maxLen) (w2 : a2.size ≤ maxLen) :
    Calls Try.prog 4 #[.string a0, .string a1, .string a2] w fun e w' => e = .returned (.bool true) ∧ Below w.heap.size w w' := by
  unfold maxLen at w0 w1 w2
  by_cases h0 : a0.size ≤ 262144
  · by_cases h1 : a1.size ≤ 262144
    · by_cases h2 : a2.size ≤ 262144
      · exact main a0 a1 a2 w h0 h1 h2
      · go_enter Try.func4, Try.ntmps4
        go_wp2
        all_goals (go_ret; exact ⟨rfl, Below.refl _ _⟩)
    · go_enter Try.func4, Try.ntmps4
      go_wp2
      all_goals (go_ret; exact ⟨rfl, Below.refl _ _⟩)
  · go_enter Try.func4, Try.ntmps4
    go_wp2
    all_goals (go_ret; exact ⟨rfl, Below.refl _ _⟩)
end Go.Proofs.Ytnflgpcbdjkpfaa.fnLessIsStrictWeakOrder
