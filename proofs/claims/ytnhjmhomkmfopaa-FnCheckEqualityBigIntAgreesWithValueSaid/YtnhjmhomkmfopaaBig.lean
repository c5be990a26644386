/-
  Texts of numbers in a base: plain facts. No condition.
-/
import Derived.Test.YtnhjmhomkmfopaaOwn
namespace Go.Proofs.Ytnhjmhomkmfopaa.Big

/-- The sign of a digit. -/
def ch (d : Nat) : Nat := if d < 10 then 48 + d else 87 + d
/-- The signs of the n low digits of v, the highest first. -/
def chs (b v n : Nat) : List Nat := (List.range n).map fun q => ch (v / b ^ (n - 1 - q) % b)
structure Len (b v n : Nat) : Prop where
  one : 1 ≤ n
  top : v / b ^ n = 0
  low : ∀ m, 1 ≤ m → m < n → v / b ^ m ≠ 0
def base (f : Nat) : Nat := if f % 4 = 1 then 16 else if f % 4 = 2 then 2 else if f % 4 = 3 then 8 else 10
def pre (f : Nat) : List Nat := if f % 4 = 1 then [48, 120] else if f % 4 = 2 then [48, 98] else if f % 4 = 3 then [48, 111] else []
/-- The text of v in the form f. -/
def Txt (f v : Nat) (l : List Nat) : Prop := ∃ n, Len (base f) v n ∧ l = pre f ++ chs (base f) v n

theorem Len.uniq {b v n m : Nat} (h : Len b v n) (g : Len b v m) : n = m := by
  rcases Nat.lt_trichotomy n m with q | q | q
  · exact absurd h.top (g.low n h.one q)
  · exact q
  · exact absurd g.top (h.low m g.one q)
theorem Txt.same {f g v : Nat} {l l' : List Nat} (hf : f % 4 = g % 4) (h : Txt f v l) (h' : Txt g v l') : l = l' := by
  have e1 : base f = base g := by unfold base; rw [hf]
  have e2 : pre f = pre g := by unfold pre; rw [hf]
  obtain ⟨n, hn, rfl⟩ := h
  obtain ⟨m, hm, rfl⟩ := h'
  rw [e1] at hn
  rw [hn.uniq hm, e1, e2]
theorem chs_len (b v n : Nat) : (chs b v n).length = n := by simp [chs]
theorem chs_get (b v n q : Nat) (h : q < n) : (chs b v n)[q]? = some (ch (v / b ^ (n - 1 - q) % b)) := by
  simp [chs, h]
theorem ch_inj {a b : Nat} (ha : a < 16) (hb : b < 16) (h : ch a = ch b) : a = b := by
  unfold ch at h
  split at h <;> split at h <;> omega
theorem base_le (f : Nat) : 2 ≤ base f ∧ base f ≤ 16 := by
  unfold base
  repeat' split
  all_goals omega
theorem digits_eq {b x y : Nat} (hb : 0 < b) : ∀ n, (∀ j, j < n → x / b ^ j % b = y / b ^ j % b) → x % b ^ n = y % b ^ n
  | 0, _ => by simp [Nat.mod_one]
  | n + 1, h => by
    rw [Nat.mod_pow_succ, Nat.mod_pow_succ, digits_eq hb n (fun j hj => h j (by omega)), h n (by omega)]
theorem chs_inj {b x y n : Nat} (hb : 2 ≤ b) (hb2 : b ≤ 16) (hx : x / b ^ n = 0) (hy : y / b ^ n = 0) (h : chs b x n = chs b y n) : x = y := by
  have hp : 0 < b ^ n := Nat.pow_pos (by omega)
  have e : x % b ^ n = y % b ^ n := digits_eq (by omega) n fun j hj => by
    have h1 := chs_get b x n (n - 1 - j) (by omega)
    have h2 := chs_get b y n (n - 1 - j) (by omega)
    rw [h, h2] at h1
    rw [show n - 1 - (n - 1 - j) = j by omega] at h1
    injection h1 with h1
    exact (ch_inj (by have := Nat.mod_lt (y / b ^ j) (show b > 0 by omega); omega) (by have := Nat.mod_lt (x / b ^ j) (show b > 0 by omega); omega) h1).symm
  rw [Nat.mod_eq_of_lt ((Nat.div_eq_zero_iff_lt hp).1 hx), Nat.mod_eq_of_lt ((Nat.div_eq_zero_iff_lt hp).1 hy)] at e
  exact e
theorem ch_dec {d : Nat} (h : d < 10) : 48 ≤ ch d ∧ ch d ≤ 57 := by unfold ch; rw [if_pos h]; omega
theorem mem_chs {b v n c : Nat} (h : c ∈ chs b v n) : ∃ d, c = ch (d % b) := by
  unfold chs at h
  obtain ⟨q, _, rfl⟩ := List.mem_map.1 h
  exact ⟨_, rfl⟩
/-- A decimal text is of decimal digits, and has no leading zero. -/
theorem Txt.dec {f v : Nat} {l : List Nat} (hf : f % 4 = 0) (h : Txt f v l) : (∀ c ∈ l, 48 ≤ c ∧ c ≤ 57) ∧ 1 ≤ l.length ∧ (2 ≤ l.length → l[0]? ≠ some 48) := by
  have e1 : base f = 10 := by unfold base; rw [if_neg (by omega), if_neg (by omega), if_neg (by omega)]
  have e2 : pre f = [] := by unfold pre; rw [if_neg (by omega), if_neg (by omega), if_neg (by omega)]
  obtain ⟨n, hn, rfl⟩ := h
  rw [e1] at hn
  rw [e1, e2, List.nil_append, chs_len]
  refine ⟨fun c hc => ?_, hn.one, fun h2 q => ?_⟩
  · obtain ⟨d, rfl⟩ := mem_chs hc
    exact ch_dec (Nat.mod_lt _ (by omega))
  · rw [chs_get 10 v n 0 (by omega)] at q
    injection q with q
    have hlow := hn.low (n - 1) (by omega) (by omega)
    have htop := hn.top
    rw [show n = n - 1 + 1 by omega, Nat.pow_succ, ← Nat.div_div_eq_div_mul] at htop
    rw [show n - 1 - 0 = n - 1 by omega] at q
    generalize v / 10 ^ (n - 1) = u at *
    have : u % 10 = 0 := ch_inj (by omega) (by omega) q
    omega
/-- A text with a radix. -/
theorem Txt.rad {f v : Nat} {l : List Nat} (hf : f % 4 ≠ 0) (h : Txt f v l) : 3 ≤ l.length ∧ l[0]? = some 48 ∧ ∃ c, l[1]? = some c ∧ 57 < c ∧ (c = 120 ↔ f % 4 = 1) ∧ (c = 98 ↔ f % 4 = 2) ∧ (c = 111 ↔ f % 4 = 3) := by
  obtain ⟨n, hn, rfl⟩ := h
  have h1 := hn.one
  have hl := chs_len (base f) v n
  rcases (by omega : f % 4 = 1 ∨ f % 4 = 2 ∨ f % 4 = 3) with q | q | q
  · have e2 : pre f = [48, 120] := by unfold pre; rw [if_pos q]
    rw [e2]
    refine ⟨by simp [hl]; omega, by simp, 120, by simp, by omega, by omega, by omega, by omega⟩
  · have e2 : pre f = [48, 98] := by unfold pre; rw [if_neg (by omega), if_pos q]
    rw [e2]
    refine ⟨by simp [hl]; omega, by simp, 98, by simp, by omega, by omega, by omega, by omega⟩
  · have e2 : pre f = [48, 111] := by unfold pre; rw [if_neg (by omega), if_neg (by omega), if_pos q]
    rw [e2]
    refine ⟨by simp [hl]; omega, by simp, 111, by simp, by omega, by omega, by omega, by omega⟩
theorem Txt.inj {f g x y : Nat} {l : List Nat} (h : Txt f x l) (h' : Txt g y l) : x = y := by
  have hfg : f % 4 = g % 4 := by
    by_cases hf : f % 4 = 0
    · by_cases hg : g % 4 = 0
      · omega
      · obtain ⟨_, _, c, hc, hc2, _⟩ := h'.rad hg
        obtain ⟨hall, _⟩ := h.dec hf
        have := hall c (List.mem_of_getElem? hc)
        omega
    · obtain ⟨_, _, c, hc, hc2, q1, q2, q3⟩ := h.rad hf
      by_cases hg : g % 4 = 0
      · obtain ⟨hall, _⟩ := h'.dec hg
        have := hall c (List.mem_of_getElem? hc)
        omega
      · obtain ⟨_, _, c', hc', hc2', r1, r2, r3⟩ := h'.rad hg
        rw [hc] at hc'
        injection hc' with hc'
        subst hc'
        omega
  have e1 : base f = base g := by unfold base; rw [hfg]
  have e2 : pre f = pre g := by unfold pre; rw [hfg]
  obtain ⟨n, hn, e⟩ := h
  obtain ⟨m, hm, rfl⟩ := h'
  rw [e1] at hn
  rw [e1, e2] at e
  have e3 := List.append_cancel_left e
  have e4 : m = n := by have := congrArg List.length e3; rwa [chs_len, chs_len] at this
  subst e4
  exact (chs_inj (base_le g).1 (base_le g).2 hm.top hn.top e3).symm
end Go.Proofs.Ytnhjmhomkmfopaa.Big
