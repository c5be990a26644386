/-
  The plain law: the identifiers of a tree in prefix order are the identifier bytes up to where the tree ends. No condition.
-/
import Derived.Test.YtnflgpcbdjkpfaaOwn
namespace Go.Proofs.Ytnflgpcbdjkpfaa
set_option linter.unusedVariables false

/-- How many children a byte asks for. -/
def ar (b : Nat) : Nat := if 2 ≤ b % 4 then (b / 4) % 4 else 0
def kidsF (go : Nat → List Nat × Nat) (n : Nat) : Nat → Nat → List Nat × Nat
  | 0, pos => ([], pos)
  | c + 1, pos => if pos < n then ((go pos).1 ++ (kidsF go n c (go pos).2).1, (kidsF go n c (go pos).2).2) else ([], pos)
/-- The identifiers of the node at pos, and where it ends. -/
def goF (code : Nat → Nat) (n : Nat) : Nat → Nat → List Nat × Nat
  | 0, pos => ([], pos + 1)
  | f + 1, pos => if code pos % 4 = 0 then ([], pos + 1) else if code pos % 4 = 1 then ([pos], pos + 1) else kidsF (goF code n f) n (ar (code pos)) (pos + 1)
/-- Where the pending nodes end. -/
def te (code : Nat → Nat) (n : Nat) : Nat → Nat → Nat → Nat
  | 0, _, i => i
  | f + 1, need, i => if i < n ∧ 0 < need then te code n f (need + ar (code i) - 1) (i + 1) else i
theorem te_stop (code : Nat → Nat) (n f need i : Nat) (h : ¬ (i < n ∧ 0 < need)) : te code n f need i = i := by
  cases f with
  | zero => rfl
  | succ f => simp only [te, if_neg h]
theorem te_more (code : Nat → Nat) (n : Nat) : ∀ (f g need i : Nat), n ≤ i + f → n ≤ i + g → te code n f need i = te code n g need i
  | 0, g, need, i, h1, h2 => by rw [te_stop code n g need i (by omega)]; rfl
  | f + 1, 0, need, i, h1, h2 => by rw [te_stop code n (f + 1) need i (by omega)]; rfl
  | f + 1, g + 1, need, i, h1, h2 => by
    simp only [te]
    split
    · exact te_more code n f g _ _ (by omega) (by omega)
    · rfl
/-- The identifier bytes from a up to b. -/
def idsIn (code : Nat → Nat) (a b : Nat) : List Nat := (List.range' a (b - a)).filter fun p => code p % 4 = 1
theorem ids_nil (code : Nat → Nat) (a : Nat) : idsIn code a a = [] := by simp [idsIn]
theorem ids_app (code : Nat → Nat) {a b c : Nat} (h1 : a ≤ b) (h2 : b ≤ c) : idsIn code a c = idsIn code a b ++ idsIn code b c := by
  unfold idsIn
  rw [← List.filter_append]
  congr 1
  rw [show c - a = (b - a) + (c - b) by omega, ← List.range'_append_1]
  rw [show a + (b - a) = b by omega]
theorem ids_one (code : Nat → Nat) (a : Nat) : idsIn code a (a + 1) = if code a % 4 = 1 then [a] else [] := by
  unfold idsIn
  rw [show a + 1 - a = 1 by omega]
  by_cases h : code a % 4 = 1 <;> simp [h]
/-- What the node at pos stands for. -/
structure Node (code : Nat → Nat) (n f pos : Nat) (r : List Nat × Nat) : Prop where
  ids : r.1 = idsIn code pos r.2
  gt : pos < r.2
  le : r.2 ≤ n
  ends : ∀ m, te code n n (m + 1) pos = te code n n m r.2
theorem te_step (code : Nat → Nat) (n m pos : Nat) (h : pos < n) : te code n n (m + 1) pos = te code n n (m + ar (code pos)) (pos + 1) := by
  obtain ⟨k, rfl⟩ : ∃ k, n = k + 1 := ⟨n - 1, by omega⟩
  rw [te]
  rw [if_pos ⟨h, by omega⟩, show m + 1 + ar (code pos) - 1 = m + ar (code pos) by omega]
  exact te_more code (k + 1) _ _ _ _ (by omega) (by omega)
structure Kids (code : Nat → Nat) (n c pos : Nat) (r : List Nat × Nat) : Prop where
  ids : r.1 = idsIn code pos r.2
  ge : pos ≤ r.2
  le : r.2 ≤ n
  ends : ∀ m, te code n n (m + c) pos = te code n n m r.2
theorem kids_of (code : Nat → Nat) (n : Nat) (go : Nat → List Nat × Nat) (lo : Nat) (hgo : ∀ p, lo ≤ p → p < n → Node code n 0 p (go p)) : ∀ c pos, lo ≤ pos → pos ≤ n → Kids code n c pos (kidsF go n c pos)
  | 0, pos, h, h2 => ⟨(ids_nil code pos).symm, Nat.le_refl _, h2, fun m => rfl⟩
  | c + 1, pos, h, h2 => by
    unfold kidsF
    by_cases hp : pos < n
    · rw [if_pos hp]
      have N := hgo pos h hp
      have K := kids_of code n go lo hgo c (go pos).2 (by have := N.gt; omega) N.le
      refine ⟨?_, ?_, K.le, fun m => ?_⟩
      · dsimp only
        rw [N.ids, K.ids, ← ids_app code (Nat.le_of_lt N.gt) K.ge]
      · have := N.gt; have := K.ge; dsimp only; omega
      · dsimp only
        rw [show m + (c + 1) = (m + c) + 1 by omega, N.ends, K.ends]
    · rw [if_neg hp]
      refine ⟨(ids_nil code pos).symm, Nat.le_refl _, h2, fun m => ?_⟩
      rw [te_stop code n n _ pos (by omega), te_stop code n n _ pos (by omega)]
theorem node_of (code : Nat → Nat) (n : Nat) : ∀ f pos, pos < n → n ≤ pos + f → Node code n 0 pos (goF code n f pos)
  | 0, pos, h, hf => by omega
  | f + 1, pos, h, hf => by
    unfold goF
    by_cases h0 : code pos % 4 = 0
    · rw [if_pos h0]
      have ha : ar (code pos) = 0 := by unfold ar; rw [if_neg (by omega)]
      refine ⟨?_, by omega, by dsimp only; omega, fun m => ?_⟩
      · rw [ids_one, if_neg (by omega)]
      · rw [te_step code n m pos h, ha]; rfl
    · rw [if_neg h0]
      by_cases h1 : code pos % 4 = 1
      · rw [if_pos h1]
        have ha : ar (code pos) = 0 := by unfold ar; rw [if_neg (by omega)]
        refine ⟨?_, by omega, by dsimp only; omega, fun m => ?_⟩
        · rw [ids_one, if_pos h1]
        · rw [te_step code n m pos h, ha]; rfl
      · rw [if_neg h1]
        have K := kids_of code n (goF code n f) (pos + 1) (fun p hp hpn => node_of code n f p hpn (by omega)) (ar (code pos)) (pos + 1) (Nat.le_refl _) (by omega)
        refine ⟨?_, ?_, K.le, fun m => ?_⟩
        · rw [K.ids, ids_app code (Nat.le_succ pos) K.ge, ids_one, if_neg h1]; rfl
        · have := K.ge; omega
        · rw [te_step code n m pos h, K.ends]
/-- With more fuel nothing turns. -/
theorem kids_congr {go go' : Nat → List Nat × Nat} {n lo : Nat} (h : ∀ p, lo ≤ p → p < n → go p = go' p) (hm : ∀ p, lo ≤ p → p < n → p < (go p).2) : ∀ c pos, lo ≤ pos → kidsF go n c pos = kidsF go' n c pos
  | 0, pos, hp => rfl
  | c + 1, pos, hp => by
    unfold kidsF
    by_cases hpn : pos < n
    · rw [if_pos hpn, if_pos hpn, ← h pos hp hpn]
      have := kids_congr h hm c (go pos).2 (by have := hm pos hp hpn; omega)
      rw [this]
    · rw [if_neg hpn, if_neg hpn]
theorem go_more (code : Nat → Nat) (n : Nat) : ∀ f g pos, pos < n → n ≤ pos + f → n ≤ pos + g → goF code n f pos = goF code n g pos
  | 0, g, pos, h, h1, h2 => by omega
  | f + 1, 0, pos, h, h1, h2 => by omega
  | f + 1, g + 1, pos, h, h1, h2 => by
    unfold goF
    rw [kids_congr (go := goF code n f) (go' := goF code n g) (n := n) (lo := pos + 1) (fun p hp hpn => go_more code n f g p hpn (by omega) (by omega)) (fun p hp hpn => (node_of code n f p hpn (by omega)).gt) _ _ (Nat.le_refl _)]
/-- THE PLAIN LAW. -/
theorem preorder (code : Nat → Nat) (n : Nat) (h : 0 < n) : (goF code n n 0).1 = idsIn code 0 (te code n n 1 0) := by
  have N := node_of code n n 0 h (by omega)
  have e := N.ends 0
  rw [te_stop code n n 0 _ (by omega)] at e
  rw [Nat.zero_add] at e
  rw [e]
  exact N.ids
end Go.Proofs.Ytnflgpcbdjkpfaa
