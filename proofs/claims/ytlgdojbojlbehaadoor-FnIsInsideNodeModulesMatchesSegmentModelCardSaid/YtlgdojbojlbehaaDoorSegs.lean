/-
  Plain facts on a path's separators and segments. No condition.
-/
import Derived.Lib.SpaceU
import Derived.Lib.DecodeN
import Derived.Lib.AsciiSet
namespace Go.Proofs.YtlgdojbojlbehaaDoor

def sep (c : UInt8) : Bool := c == 47 || c == 92
/-- The name that is looked for. -/
def NM : List UInt8 := [110, 111, 100, 101, 95, 109, 111, 100, 117, 108, 101, 115]
theorem nm_sep : ∀ c ∈ NM, sep c = false := by decide
def Clean (l : List UInt8) : Prop := ∀ c ∈ l, sep c = false
/-- Some segment other than the first is the name. -/
def Has (l : List UInt8) : Prop := ∃ A s B, l = A ++ s :: (NM ++ B) ∧ sep s = true ∧ ∀ t B', B = t :: B' → sep t = true

theorem clean_not {l : List UInt8} (h : Clean l) : ¬ Has l := by
  rintro ⟨A, s, B, rfl, hs, _⟩
  have := h s (by simp)
  rw [hs] at this; cases this
theorem has_cut {A b : List UInt8} {s : UInt8} (hs : sep s = true) (hb : Clean b) : Has (A ++ s :: b) ↔ b = NM ∨ Has A := by
  constructor
  · rintro ⟨A', s', B, e, hs', hB⟩
    rcases List.append_eq_append_iff.1 e with ⟨C, hC, hD⟩ | ⟨C, hC, hD⟩
    · -- A' = A ++ C
      cases C with
      | nil =>
        left
        simp only [List.nil_append, List.cons.injEq] at hD
        obtain ⟨_, hD⟩ := hD
        cases B with
        | nil => rw [List.append_nil] at hD; exact hD
        | cons t B' =>
          have := hb t (by rw [hD]; simp)
          rw [hB t B' rfl] at this; cases this
      | cons c C =>
        simp only [List.cons_append, List.cons.injEq] at hD
        have := hb s' (by rw [hD.2]; simp)
        rw [hs'] at this; cases this
    · -- A = A' ++ C
      cases C with
      | nil =>
        left
        simp only [List.nil_append, List.cons.injEq] at hD
        obtain ⟨_, hD⟩ := hD
        cases B with
        | nil => rw [List.append_nil] at hD; exact hD.symm
        | cons t B' =>
          have := hb t (by rw [← hD]; simp)
          rw [hB t B' rfl] at this; cases this
      | cons c C =>
        right
        simp only [List.cons_append, List.cons.injEq] at hD
        obtain ⟨rfl, hD⟩ := hD
        -- NM ++ B = C ++ s :: b
        rcases List.append_eq_append_iff.1 hD with ⟨D, hD1, hD2⟩ | ⟨D, hD1, hD2⟩
        · refine ⟨A', s', D, by rw [hC, hD1], hs', ?_⟩
          rintro t B' rfl
          exact hB t _ (by rw [hD2]; rfl)
        · cases D with
          | nil =>
            refine ⟨A', s', [], by rw [hC]; rw [List.append_nil] at hD1; rw [hD1]; simp, hs', ?_⟩
            rintro t B' h; cases h
          | cons d D =>
            simp only [List.cons_append, List.cons.injEq] at hD2
            have := nm_sep d (by rw [hD1]; simp)
            rw [← hD2.1, hs] at this; cases this
  · rintro (rfl | ⟨A', s', B, rfl, hs', hB⟩)
    · exact ⟨A, s, [], by simp, hs, fun t B' h => by cases h⟩
    · refine ⟨A', s', B ++ s :: b, by simp, hs', ?_⟩
      intro t B' h
      cases B with
      | nil => simp only [List.nil_append, List.cons.injEq] at h; rw [← h.1]; exact hs
      | cons u U => simp only [List.cons_append, List.cons.injEq] at h; rw [← h.1]; exact hB u U rfl

open Classical in
/-- The answer, as a bool. -/
noncomputable def hasB (l : List UInt8) : Bool := decide (Has l)
theorem hasB_true {l : List UInt8} (h : Has l) : hasB l = true := by unfold hasB; simp [h]
theorem hasB_false {l : List UInt8} (h : ¬ Has l) : hasB l = false := by unfold hasB; simp [h]

/-- Where the last separator stands, or -1. -/
def LastSep (l : List UInt8) (r : Int) : Prop := (r = -1 ∧ Clean l) ∨ ∃ k : Nat, r = k ∧ ∃ A s b, l = A ++ s :: b ∧ A.length = k ∧ sep s = true ∧ Clean b
theorem lastSep_at {l : List UInt8} {k : Nat} (h : k < l.length) (hs : sep l[k] = true) (hc : Clean (l.drop (k + 1))) : LastSep l k :=
  .inr ⟨k, rfl, l.take k, l[k], l.drop (k + 1), by rw [← List.drop_eq_getElem_cons h, List.take_append_drop], by simp; omega, hs, hc⟩
theorem clean_drop {l : List UInt8} {k : Nat} (h : k < l.length) (hs : sep l[k] = false) (hc : Clean (l.drop (k + 1))) : Clean (l.drop k) := by
  rw [List.drop_eq_getElem_cons h]
  intro c hc'
  rcases List.mem_cons.1 hc' with rfl | hm
  · exact hs
  · exact hc c hm
theorem high_sep {c : UInt8} (h : 128 ≤ c.toNat) : sep c = false := by
  unfold sep
  have a : c ≠ 47 := fun e => by subst e; simp at h
  have b : c ≠ 92 := fun e => by subst e; simp at h
  simp [a, b]

/-! ### What the last rune tells -/
open Go.Lib in
theorem decodeN_high {n b0 b1 b2 b3 : Nat} (hn : 1 ≤ n) (h : 128 ≤ b0) : 128 ≤ (decodeN n b0 b1 b2 b3).1 ∧ 1 ≤ (decodeN n b0 b1 b2 b3).2 ∧
    (decodeN n b0 b1 b2 b3).2 ≤ n ∧ (2 ≤ (decodeN n b0 b1 b2 b3).2 → 128 ≤ b1) ∧ (3 ≤ (decodeN n b0 b1 b2 b3).2 → 128 ≤ b2) ∧ (4 ≤ (decodeN n b0 b1 b2 b3).2 → 128 ≤ b3) ∧ (decodeN n b0 b1 b2 b3).2 ≤ 4 ∧ (decodeN n b0 b1 b2 b3).1 ≤ 1114111 := by
  unfold decodeN
  repeat' split
  all_goals (simp only; omega)
theorem decodeN_low {n b0 b1 b2 b3 : Nat} (h : b0 < 128) : Go.Lib.decodeN n b0 b1 b2 b3 = (b0, 1) := by unfold Go.Lib.decodeN; rw [if_pos h]

theorem lastStart_lt (l : List UInt8) (h : l ≠ []) : Go.Lib.lastStart l < l.length := by
  have : 0 < l.length := List.length_pos_iff.2 h
  unfold Go.Lib.lastStart
  simp only
  repeat' split
  all_goals omega
theorem get_list (m : List UInt8) (i : Nat) (h : i < m.length) : (⟨m.toArray⟩ : ByteArray).get! i = m[i] := by
  show m.toArray[i]! = _
  rw [getElem!_pos m.toArray i (by simpa using h)]; simp
/-- What strings.LastIndexAny makes of the last rune. -/
structure LastRune (l : List UInt8) (d : Nat × Nat) : Prop where
  pos : 1 ≤ d.2
  le : d.2 ≤ l.length
  low : (l.getD (l.length - 1) 0).toNat < 128 → d = ((l.getD (l.length - 1) 0).toNat, 1)
  high : 128 ≤ (l.getD (l.length - 1) 0).toNat → 128 ≤ d.1 ∧ d.1 ≤ 1114111 ∧ ∀ j (hj : j < l.length), l.length - d.2 ≤ j → 128 ≤ (l[j]).toNat
open Go.Lib in
theorem lastRune (l : List UInt8) (h : l ≠ []) : LastRune l (decodeLastL l) := by
  have hpos : 0 < l.length := List.length_pos_iff.2 h
  have hlast : ∀ (hj : l.length - 1 < l.length), l.getD (l.length - 1) 0 = l[l.length - 1] := fun hj => by simp [List.getD, hj]
  unfold decodeLastL
  rw [if_neg h]
  by_cases hlow : (l.getD (l.length - 1) 0).toNat < 128
  · rw [if_pos hlow]
    exact ⟨Nat.le_refl _, hpos, fun _ => rfl, fun q => by omega⟩
  · rw [if_neg hlow]
    have bad : LastRune l (65533, 1) := by
      refine ⟨Nat.le_refl _, hpos, fun q => absurd q hlow, fun q => ⟨by show 128 ≤ 65533; omega, by show 65533 ≤ 1114111; omega, fun j hj hj2 => ?_⟩⟩
      have : j = l.length - 1 := by simp at hj2; omega
      subst this
      rw [← hlast hj]; omega
    have hst := lastStart_lt l h
    simp only
    split
    · rename_i he
      generalize hm : l.drop (lastStart l) = m at *
      have hml : m.length = l.length - lastStart l := by rw [← hm, List.length_drop]
      have hmi : ∀ i (hi : i < m.length), m[i] = l[lastStart l + i]'(by omega) := fun i hi => by subst hm; simp
      unfold decodeL at he ⊢
      rw [decode_at] at he ⊢
      have hsz : (⟨m.toArray⟩ : ByteArray).size - 0 = m.length := rfl
      rw [hsz] at he ⊢
      have g0 := get_list m 0 (by omega)
      have hb0 : 128 ≤ ((⟨m.toArray⟩ : ByteArray).get! 0).toNat := by
        false_or_by_contra
        rename_i hc
        rw [decodeN_low (by omega)] at he
        simp only at he
        have e1 : m[0]'(by omega) = l[l.length - 1]'(by omega) := by rw [hmi]; congr 1; omega
        rw [g0, e1, ← hlast (by omega)] at hc
        omega
      obtain ⟨p1, p2, p3, p4, p5, p6, p7, p8⟩ := decodeN_high (n := m.length) (b1 := ((⟨m.toArray⟩ : ByteArray).get! (0 + 1)).toNat) (b2 := ((⟨m.toArray⟩ : ByteArray).get! (0 + 2)).toNat) (b3 := ((⟨m.toArray⟩ : ByteArray).get! (0 + 3)).toNat) (by omega) hb0
      refine ⟨p2, by omega, fun q => absurd q hlow, fun _ => ⟨p1, p8, fun j hj hj2 => ?_⟩⟩
      have hj3 : j - lastStart l < m.length := by omega
      have e2 : l[j] = m[j - lastStart l] := by rw [hmi _ hj3]; congr 1; omega
      rw [e2]
      rcases (show j - lastStart l = 0 ∨ j - lastStart l = 1 ∨ j - lastStart l = 2 ∨ j - lastStart l = 3 by omega) with q | q | q | q
      · simp only [q]; rw [← g0]; exact hb0
      · have := p4 (by omega); rw [get_list m (0 + 1) (by omega)] at this; simp only [q]; exact this
      · have := p5 (by omega); rw [get_list m (0 + 2) (by omega)] at this; simp only [q]; exact this
      · have := p6 (by omega); rw [get_list m (0 + 3) (by omega)] at this; simp only [q]; exact this
    · exact bad
/-- The two separators as a set of bytes. -/
theorem set_at (c : Nat) (h : c < 256) : (Go.Lib.setCells [47, 92])[c]? = some (.bool (c == 47 || c == 92)) := by
  unfold Go.Lib.setCells
  simp only [List.foldl_cons, List.foldl_nil]
  rw [show (47 : UInt8).toNat = 47 from rfl, show (92 : UInt8).toNat = 92 from rfl, Array.getElem?_setIfInBounds, Array.getElem?_setIfInBounds]
  by_cases h1 : 92 = c
  · subst h1; simp
  · by_cases h2 : 47 = c
    · subst h2; simp
    · rw [if_neg h1, if_neg h2]
      have e1 : (c == 47) = false := by simpa using fun e => h2 e.symm
      have e2 : (c == 92) = false := by simpa using fun e => h1 e.symm
      rw [e1, e2]; simp [h]
end Go.Proofs.YtlgdojbojlbehaaDoor
