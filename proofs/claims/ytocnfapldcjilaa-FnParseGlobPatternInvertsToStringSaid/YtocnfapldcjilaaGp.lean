/-
  The plain law of the printed pattern: what each round of the parser meets. No condition.
-/
import Derived.Test.YtocnfapldcjilaaGc
namespace Go.Proofs.Ytocnfapldcjilaa
open Go.ChangeShapes Go.WideShapes Go.ChangeAt Go.RowKit
set_option linter.unusedVariables false

/-- The wildcard of part i. -/
def wv (cs : List Int) (n i : Nat) : Nat := if i + 1 < n then (Wd cs i).toNat else 0
def stars (c : Nat) : List UInt8 := List.replicate c 42
def pc (zs : List ByteArray) (cs : List Int) (n i : Nat) : List UInt8 := (Pf zs i).data.toList ++ stars (wv cs n i)
/-- The text of the first k parts; of the last m. -/
def fw (zs : List ByteArray) (cs : List Int) (n : Nat) : Nat → List UInt8
  | 0 => []
  | k + 1 => fw zs cs n k ++ pc zs cs n k
def tx (zs : List ByteArray) (cs : List Int) (n : Nat) : Nat → List UInt8
  | 0 => []
  | m + 1 => pc zs cs n (n - 1 - m) ++ tx zs cs n m
theorem fw_tx (zs : List ByteArray) (cs : List Int) (n m : Nat) (h : m ≤ n) : fw zs cs n (n - m) ++ tx zs cs n m = fw zs cs n n := by
  induction m with
  | zero => simp [tx]
  | succ m ih =>
    have e : n - m = (n - (m + 1)) + 1 := by omega
    rw [← ih (by omega), e]
    simp only [fw, tx, List.append_assoc]
    rw [show n - 1 - m = n - (m + 1) by omega]
theorem tx_all (zs : List ByteArray) (cs : List Int) (n : Nat) : tx zs cs n n = fw zs cs n n := by
  have := fw_tx zs cs n n (Nat.le_refl _)
  simpa [fw] using this
theorem wv_le {zs : List ByteArray} {cs : List Int} {n i : Nat} (h : Good zs cs n i) : wv cs n i ≤ 2 := by
  unfold wv
  split
  · rcases h.wild (by assumption) with q | q <;> rw [q] <;> decide
  · omega
theorem fw_len {zs : List ByteArray} {cs : List Int} {n : Nat} (h : ∀ i, i < n → Good zs cs n i) (k : Nat) (hk : k ≤ n) : (fw zs cs n k).length ≤ sz zs k + 2 * k := by
  induction k with
  | zero => simp [fw]
  | succ k ih =>
    have := ih (by omega)
    have hw := wv_le (h k (by omega))
    simp only [fw, pc, stars, List.length_append, List.length_replicate, sz, len_tl]
    show _ ≤ sz zs k + (Pf zs k).size + 2 * (k + 1)
    omega
theorem sz_mono (zs : List ByteArray) (k n : Nat) (h : k ≤ n) : sz zs k ≤ sz zs n := by
  induction n with
  | zero => obtain rfl : k = 0 := by omega
            exact Nat.le_refl _
  | succ n ih =>
    by_cases e : k = n + 1
    · subst e; exact Nat.le_refl _
    · exact Nat.le_trans (ih (by omega)) (by simp [sz])
theorem index_star (P R : List UInt8) (h : ∀ x ∈ P, x ≠ 42) : Lib.indexByte (P ++ 42 :: R) 42 = (P.length : Int) := by
  induction P with
  | nil => simp [Lib.indexByte]
  | cons x P ih =>
    have hx := h x (by simp)
    have hr := ih (fun y hy => h y (by simp [hy]))
    simp only [List.cons_append, Lib.indexByte, hr, List.length_cons]
    simp [hx]
theorem index_none (P : List UInt8) (h : ∀ x ∈ P, x ≠ 42) : Lib.indexByte P 42 = -1 := by
  induction P with
  | nil => simp [Lib.indexByte]
  | cons x P ih =>
    have hx := h x (by simp)
    have hr := ih (fun y hy => h y (by simp [hy]))
    simp only [Lib.indexByte, hr]
    simp [hx]
theorem nostar {x : ByteArray} (h : ∀ k, k < x.size → B x k ≠ 42) : ∀ y ∈ x.data.toList, y ≠ 42 := by
  intro y hy e
  obtain ⟨k, hk, rfl⟩ := List.mem_iff_getElem.1 hy
  refine h k hk ?_
  rw [← B_list x k hk, e]
  rfl
/-- The byte at a place of a text that is told as a list. -/
theorem B_of {t : ByteArray} {l : List UInt8} (h : t.data.toList = l) (k : Nat) (hk : k < l.length) : B t k = (l[k]).toNat := by
  subst h; exact (B_list t k hk).symm
/-- What one round of the parser meets, where a wildcard follows. -/
structure Rd (t x t' : ByteArray) (a c : Nat) : Prop where
  ha : x.size = a
  size : t.size = a + c + t'.size
  cpos : c = 1 ∨ c = 2
  pref : t.extract 0 a = x
  rest : t.extract (a + c) t.size = t'
  star : ∀ j, j < c → B t (a + j) = 42
  next : 0 < t'.size → B t (a + c) ≠ 42
  slp : c = 2 → 0 < a → Sl (B t (a - 1))
  sln : c = 2 → 0 < t'.size → Sl (B t (a + c))
  idx : Lib.indexByte t.data.toList 42 = (a : Int)
theorem lastRd {zs : List ByteArray} {cs : List Int} {n : Nat} {t : ByteArray} (h : Wf zs cs n) (ht : t.data.toList = tx zs cs n 1) : t = Pf zs (n - 1) ∧ Lib.indexByte t.data.toList 42 = -1 := by
  have e : tx zs cs n 1 = (Pf zs (n - 1)).data.toList := by
    have : wv cs n (n - 1) = 0 := by unfold wv; rw [if_neg (by have := h.1; omega)]
    simp [tx, pc, this, stars]
  have e2 : t = Pf zs (n - 1) := ba_ext (by rw [ht, e])
  refine ⟨e2, ?_⟩
  rw [e2]
  exact index_none _ (nostar (h.2 (n - 1) (by have := h.1; omega)).star)
theorem txHead {zs : List ByteArray} {cs : List Int} {n m : Nat} (h : Wf zs cs n) (hm : m + 2 ≤ n) (t' : ByteArray) (ht : t'.data.toList = tx zs cs n (m + 1)) (h0 : 0 < t'.size) :
    0 < (Pf zs (n - 1 - m)).size ∧ B t' 0 = B (Pf zs (n - 1 - m)) 0 := by
  have g := h.2 (n - 1 - m) (by omega)
  have hp : 0 < (Pf zs (n - 1 - m)).size := by
    by_cases e : m = 0
    · subst e
      have e1 : tx zs cs n 1 = (Pf zs (n - 1)).data.toList := by
        have : wv cs n (n - 1) = 0 := by unfold wv; rw [if_neg (by omega)]
        simp [tx, pc, this, stars]
      rw [← len_tl, ht, e1, len_tl] at h0
      exact h0
    · exact g.ne (by omega) (by omega)
  refine ⟨hp, ?_⟩
  have hl : 0 < (tx zs cs n (m + 1)).length := by rw [← ht, len_tl]; exact h0
  rw [B_of ht 0 hl, ← B_list (Pf zs (n - 1 - m)) 0 (by rw [len_tl]; exact hp)]
  congr 1
  simp only [tx, pc, List.append_assoc]
  rw [List.getElem_append_left (by rw [len_tl]; exact hp)]
theorem theRd {zs : List ByteArray} {cs : List Int} {n m : Nat} {t : ByteArray} (h : Wf zs cs n) (hm : m + 2 ≤ n) (ht : t.data.toList = tx zs cs n (m + 2)) :
    Rd t (Pf zs (n - 2 - m)) ⟨(tx zs cs n (m + 1)).toArray⟩ (Pf zs (n - 2 - m)).size (wv cs n (n - 2 - m)) := by
  have g := h.2 (n - 2 - m) (by omega)
  have ei : n - 1 - (m + 1) = n - 2 - m := by omega
  have e : t.data.toList = (Pf zs (n - 2 - m)).data.toList ++ (stars (wv cs n (n - 2 - m)) ++ tx zs cs n (m + 1)) := by
    rw [ht]; simp only [tx, pc, ei, List.append_assoc]
  have hwv : wv cs n (n - 2 - m) = (Wd cs (n - 2 - m)).toNat := by unfold wv; rw [if_pos (by omega)]
  have hw := g.wild (by omega)
  have hc : wv cs n (n - 2 - m) = 1 ∨ wv cs n (n - 2 - m) = 2 := by rw [hwv]; rcases hw with q | q <;> rw [q] <;> simp
  have hc2 : wv cs n (n - 2 - m) = 2 → Wd cs (n - 2 - m) = 2 := fun q => by rw [hwv] at q; rcases hw with q' | q' <;> rw [q'] at q ⊢; simp at q
  have hns := nostar g.star
  have hT := txHead (t' := ⟨(tx zs cs n (m + 1)).toArray⟩) h hm rfl
  have htl : (ByteArray.mk (tx zs cs n (m + 1)).toArray).data.toList = tx zs cs n (m + 1) := rfl
  have hnx := g.nxt (by omega)
  rw [show n - 2 - m + 1 = n - 1 - m by omega] at hnx
  have g2 := h.2 (n - 1 - m) (by omega)
  have hst2 := g2.star
  have hpre := g.pre (by omega)
  have hlen : (stars (wv cs n (n - 2 - m))).length = wv cs n (n - 2 - m) := by simp [stars]
  generalize hx : Pf zs (n - 2 - m) = x at *
  generalize wv cs n (n - 2 - m) = c at *
  generalize tx zs cs n (m + 1) = R at *
  have hsz : t.size = x.size + c + (ByteArray.mk R.toArray).size := by
    rw [← len_tl, e, List.length_append, List.length_append, hlen, len_tl, ← len_tl (ByteArray.mk R.toArray), htl]; omega
  have hRs : R.length = (ByteArray.mk R.toArray).size := by rw [← len_tl, htl]
  have hrest : ∀ j, j < (ByteArray.mk R.toArray).size → B t (x.size + c + j) = B (ByteArray.mk R.toArray) j := fun j hj => by
    have l1 : x.size + c + j < (x.data.toList ++ (stars c ++ R)).length := by
      rw [List.length_append, List.length_append, hlen, len_tl, hRs]; omega
    rw [B_of e _ l1, ← B_list (ByteArray.mk R.toArray) j (by rw [len_tl]; exact hj)]
    congr 1
    rw [List.getElem_append_right (by rw [len_tl]; omega), List.getElem_append_right (by rw [hlen, len_tl]; omega)]
    congr 1
    rw [hlen, len_tl]; omega
  refine ⟨rfl, hsz, hc, ?_, ?_, ?_, ?_, ?_, ?_, ?_⟩
  · refine ba_ext ?_
    simp only [Lib.extract_data, e, List.drop_zero, Nat.sub_zero]
    rw [List.take_append_of_le_length (by rw [len_tl]; exact Nat.le_refl _), List.take_of_length_le (by rw [len_tl]; exact Nat.le_refl _)]
  · refine ba_ext ?_
    rw [Lib.extract_to_end, e, htl, ← List.append_assoc, List.drop_append_of_le_length (by rw [List.length_append, hlen, len_tl]; exact Nat.le_refl _)]
    rw [List.drop_of_length_le (by rw [List.length_append, hlen, len_tl]; exact Nat.le_refl _)]
    rfl
  · intro j hj
    have l1 : x.size + j < (x.data.toList ++ (stars c ++ R)).length := by
      rw [List.length_append, List.length_append, hlen, len_tl]; omega
    rw [B_of e _ l1, List.getElem_append_right (by rw [len_tl]; omega), List.getElem_append_left (by rw [hlen, len_tl]; omega)]
    simp [stars]
  · intro h0
    have := hrest 0 h0
    rw [Nat.add_zero] at this
    rw [this, (hT h0).2]
    exact hst2 0 (hT h0).1
  · intro q h0
    have := hpre (hc2 q) h0
    have l1 : x.size - 1 < (x.data.toList ++ (stars c ++ R)).length := by
      rw [List.length_append, len_tl]; omega
    rw [B_of e _ l1, List.getElem_append_left (by rw [len_tl]; omega), B_list]
    exact this
  · intro q h0
    have hh := hrest 0 h0
    rw [Nat.add_zero] at hh
    rw [hh, (hT h0).2]
    exact hnx (hc2 q) (hT h0).1
  · rw [e]
    obtain ⟨d, rfl⟩ : ∃ d, c = d + 1 := ⟨c - 1, by omega⟩
    rw [show stars (d + 1) = 42 :: stars d from rfl, List.cons_append, index_star _ _ hns, len_tl]
/-- The cells of the first k parts. -/
def pl (zs : List ByteArray) (cs : List Int) (n : Nat) : Nat → List Value
  | 0 => []
  | k + 1 => pl zs cs n k ++ [.string (Pf zs k), .int .u8 (wv cs n k)]
theorem pl_len (zs : List ByteArray) (cs : List Int) (n k : Nat) : (pl zs cs n k).length = k * 2 := by
  induction k with
  | zero => rfl
  | succ k ih => simp [pl, ih]; omega
theorem pl_at (zs : List ByteArray) (cs : List Int) (n k i : Nat) (h : i < k) : (pl zs cs n k)[i * 2]? = some (.string (Pf zs i)) ∧ (pl zs cs n k)[i * 2 + 1]? = some (.int .u8 (wv cs n i)) := by
  induction k with
  | zero => omega
  | succ k ih =>
    have hl := pl_len zs cs n k
    by_cases e : i = k
    · subst e
      constructor
      · simp only [pl]; rw [List.getElem?_append_right (by omega)]; simp [hl]
      · simp only [pl]; rw [List.getElem?_append_right (by omega)]; simp [hl]
    · obtain ⟨h1, h2⟩ := ih (by omega)
      constructor
      · simp only [pl]; rw [List.getElem?_append_left (by omega)]; exact h1
      · simp only [pl]; rw [List.getElem?_append_left (by omega)]; exact h2
end Go.Proofs.Ytocnfapldcjilaa
