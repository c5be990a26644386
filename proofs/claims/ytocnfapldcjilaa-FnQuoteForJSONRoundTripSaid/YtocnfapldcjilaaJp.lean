/-
  Quoting for JSON in plain words: code points, tokens, their bytes and values. No condition.
-/
import Derived.Test.YtocnfapldcjilaaMsk
namespace Go.Proofs.Ytocnfapldcjilaa
open Go.RowKit
set_option linter.unusedVariables false

/-! ### Code points as bytes -/
def encN (c : Nat) : List Nat :=
  if c < 128 then [c] else if c < 2048 then [192 + c / 64, 128 + c % 64]
  else if c < 65536 then [224 + c / 4096, 128 + c / 64 % 64, 128 + c % 64]
  else [240 + c / 262144, 128 + c / 4096 % 64, 128 + c / 64 % 64, 128 + c % 64]
def Sc (c : Nat) : Prop := c < 55296 ∨ (57344 ≤ c ∧ c ≤ 1114111)
def by8 (l : List Nat) : List UInt8 := l.map UInt8.ofNat
def nb (s : ByteArray) : List Nat := s.data.toList.map UInt8.toNat
theorem nb_len (s : ByteArray) : (nb s).length = s.size := by simp [nb]
theorem by8_nb (s : ByteArray) : by8 (nb s) = s.data.toList := by
  simp only [by8, nb, List.map_map]
  exact (List.map_congr_left (fun x _ => by simp)).trans (List.map_id _)
theorem by8_app (a b : List Nat) : by8 (a ++ b) = by8 a ++ by8 b := by simp [by8]
theorem by8_len (a : List Nat) : (by8 a).length = a.length := by simp [by8]
theorem B_nb (s : ByteArray) (k : Nat) : B s k = (nb s).getD k 0 := by
  by_cases h : k < s.size
  · rw [List.getD_eq_getElem?_getD, List.getElem?_eq_getElem (by rw [nb_len]; exact h)]
    simp only [nb, List.getElem_map, Option.getD_some]
    exact (B_list s k h).symm
  · rw [List.getD_eq_getElem?_getD, List.getElem?_eq_none (by rw [nb_len]; omega)]
    unfold B
    rw [get_default s k h]; rfl
theorem encN_len (c : Nat) : 1 ≤ (encN c).length ∧ (encN c).length ≤ 4 := by
  unfold encN; split
  · simp
  split
  · simp
  split <;> simp
theorem encN_lt (c : Nat) (h : c ≤ 1114111) : ∀ x ∈ encN c, x < 256 := by
  unfold encN; split
  · simp; omega
  split
  · simp; omega
  split <;> (simp; omega)

/-- What the decoder gives. -/
def dcod (n a b c d : Nat) : Nat × Nat :=
  if n = 0 then (65533, 0) else if a < 128 then (a, 1)
  else if 192 ≤ a ∧ a < 224 then
    if n < 2 then (65533, 0) else if b / 64 = 2 ∧ 128 ≤ (a - 192) * 64 + b % 64 then ((a - 192) * 64 + b % 64, 2) else (65533, 1)
  else if 224 ≤ a ∧ a < 240 then
    if n < 3 then (65533, 0) else if b / 64 = 2 ∧ c / 64 = 2 ∧ 2048 ≤ (a - 224) * 4096 + b % 64 * 64 + c % 64 then ((a - 224) * 4096 + b % 64 * 64 + c % 64, 3) else (65533, 1)
  else if 240 ≤ a ∧ a < 248 then
    if n < 4 then (65533, 0) else if b / 64 = 2 ∧ c / 64 = 2 ∧ d / 64 = 2 ∧ 65536 ≤ (a - 240) * 262144 + b % 64 * 4096 + c % 64 * 64 + d % 64 ∧ (a - 240) * 262144 + b % 64 * 4096 + c % 64 * 64 + d % 64 ≤ 1114111 then ((a - 240) * 262144 + b % 64 * 4096 + c % 64 * 64 + d % 64, 4) else (65533, 1)
  else (65533, 1)
theorem dcod_enc (c : Nat) (h : Sc c) (rest : List Nat) :
    dcod (encN c ++ rest).length ((encN c ++ rest).getD 0 0) ((encN c ++ rest).getD 1 0) ((encN c ++ rest).getD 2 0) ((encN c ++ rest).getD 3 0) = (c, (encN c).length) := by
  unfold Sc at h
  unfold encN
  by_cases h1 : c < 128
  · simp only [if_pos h1, List.cons_append, List.nil_append, List.length_cons, List.getD_cons_zero, List.length_nil]
    unfold dcod
    rw [if_neg (by omega), if_pos h1]
  by_cases h2 : c < 2048
  · simp only [if_neg h1, if_pos h2, List.cons_append, List.nil_append, List.length_cons, List.getD_cons_zero, List.getD_cons_succ, List.length_nil]
    unfold dcod
    rw [if_neg (by omega), if_neg (by omega), if_pos (by omega), if_neg (by omega), if_pos (by omega)]
    congr 1; omega
  by_cases h3 : c < 65536
  · simp only [if_neg h1, if_neg h2, if_pos h3, List.cons_append, List.nil_append, List.length_cons, List.getD_cons_zero, List.getD_cons_succ, List.length_nil]
    unfold dcod
    rw [if_neg (by omega), if_neg (by omega), if_neg (by omega), if_pos (by omega), if_neg (by omega), if_pos (by omega)]
    congr 1; omega
  · simp only [if_neg h1, if_neg h2, if_neg h3, List.cons_append, List.nil_append, List.length_cons, List.getD_cons_zero, List.getD_cons_succ, List.length_nil]
    unfold dcod
    rw [if_neg (by omega), if_neg (by omega), if_neg (by omega), if_neg (by omega), if_pos (by omega), if_neg (by omega), if_pos (by omega)]
    congr 1; omega

/-! ### Tokens -/
def can (a : Bool) (c : Nat) : Bool := if c ≤ 126 then (decide (32 ≤ c) && decide (c ≠ 92) && decide (c ≠ 34)) else (!a && decide (c ≠ 65279) && (decide (c < 55296) || decide (57343 < c)))
def hexU (k : Nat) : Nat := if k < 10 then 48 + k else 55 + k
def hex4 (u : Nat) : List Nat := [92, 117, hexU (u / 4096), hexU (u / 256 % 16), hexU (u / 16 % 16), hexU (u % 16)]
inductive Tk where
  | raw (b : Nat)
  | two (e s : Nat)
  | four (u : Nat)
  | pair (c : Nat)
def Tk.bs : Tk → List Nat
  | raw b => [b]
  | two e _ => [92, e]
  | four u => hex4 u
  | pair c => hex4 (55296 + (c - 65536) / 1024) ++ hex4 (56320 + (c - 65536) % 1024)
def Tk.vs : Tk → List Nat
  | raw b => [b]
  | two _ s => [s]
  | four u => encN u
  | pair c => encN c
def Tk.ok (a : Bool) : Tk → Prop
  | raw b => 32 ≤ b ∧ b < 256 ∧ b ≠ 34 ∧ b ≠ 92 ∧ (a = true → b ≤ 126)
  | two e s => (e, s) ∈ [(98, 8), (102, 12), (110, 10), (114, 13), (116, 9), (92, 92), (34, 34)]
  | four u => u < 55296 ∨ (57344 ≤ u ∧ u < 65536)
  | pair c => 65536 ≤ c ∧ c ≤ 1114111
def toks (a : Bool) (c : Nat) : List Tk :=
  if can a c = true then (encN c).map Tk.raw
  else if c = 8 then [.two 98 8] else if c = 12 then [.two 102 12] else if c = 10 then [.two 110 10] else if c = 13 then [.two 114 13]
  else if c = 9 then [.two 116 9] else if c = 92 then [.two 92 92] else if c = 34 then [.two 34 34]
  else if c < 65536 then [.four c] else [.pair c]
theorem toks_vs (a : Bool) (c : Nat) : (toks a c).flatMap Tk.vs = encN c := by
  unfold toks
  split
  · induction encN c with
    | nil => rfl
    | cons x l ih => simp only [List.map_cons, List.flatMap_cons, ih]; rfl
  repeat' split
  all_goals first
    | (subst_vars; rfl)
    | (simp [Tk.vs])
theorem toks_can (a : Bool) (c : Nat) (h : can a c = true) : (toks a c).flatMap Tk.bs = encN c := by
  unfold toks
  rw [if_pos h]
  induction encN c with
  | nil => rfl
  | cons x l ih => simp only [List.map_cons, List.flatMap_cons, ih]; rfl
theorem toks_ok (a : Bool) (c : Nat) (h : Sc c) : ∀ t ∈ toks a c, t.ok a := by
  unfold Sc at h
  unfold toks
  split
  · rename_i hc
    intro t ht
    rw [List.mem_map] at ht
    obtain ⟨x, hx, rfl⟩ := ht
    have hl := encN_lt c (by omega) x hx
    show 32 ≤ x ∧ x < 256 ∧ x ≠ 34 ∧ x ≠ 92 ∧ (a = true → x ≤ 126)
    unfold can at hc
    split at hc
    · rename_i hle
      unfold encN at hx
      rw [if_pos (by omega)] at hx
      simp at hx hc
      subst hx
      omega
    · rename_i hgt
      simp at hc
      have ha : a = false := hc.1.1
      subst ha
      have : 127 ≤ x := by
        unfold encN at hx
        split at hx
        · simp at hx; omega
        split at hx
        · simp at hx; omega
        split at hx
        · simp at hx; omega
        · simp at hx; omega
      refine ⟨by omega, hl, by omega, by omega, by simp⟩
  repeat' split
  all_goals (intro t ht; rw [List.mem_singleton] at ht; subst ht)
  all_goals first
    | (show (_, _) ∈ _; decide)
    | (show _ ∨ _; omega)
    | (show _ ∧ _; omega)
def outs (a : Bool) (cs : List Nat) : List Nat := (cs.flatMap (toks a)).flatMap Tk.bs
theorem outs_app (a : Bool) (x y : List Nat) : outs a (x ++ y) = outs a x ++ outs a y := by simp [outs, List.flatMap_append]
theorem outs_one (a : Bool) (c : Nat) : outs a [c] = (toks a c).flatMap Tk.bs := by simp [outs]
theorem vals_all (a : Bool) (cs : List Nat) : (cs.flatMap (toks a)).flatMap Tk.vs = cs.flatMap encN := by
  induction cs with
  | nil => rfl
  | cons c l ih => simp only [List.flatMap_cons, List.flatMap_append, toks_vs, ih]
theorem oks_all (a : Bool) (cs : List Nat) (h : ∀ c ∈ cs, Sc c) : ∀ t ∈ cs.flatMap (toks a), t.ok a := by
  intro t ht
  rw [List.mem_flatMap] at ht
  obtain ⟨c, hc, ht⟩ := ht
  exact toks_ok a c (h c hc) t ht
/-- A valid text: its code points. -/
def Pts (s : ByteArray) (cs : List Nat) : Prop := (∀ c ∈ cs, Sc c) ∧ nb s = cs.flatMap encN
end Go.Proofs.Ytocnfapldcjilaa
