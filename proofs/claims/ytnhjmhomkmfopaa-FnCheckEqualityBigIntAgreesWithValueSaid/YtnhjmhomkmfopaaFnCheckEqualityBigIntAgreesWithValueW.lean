/-
  The law FnCheckEqualityBigIntAgreesWithValue's walk. No condition.
-/
import Derived.Test.YtnhjmhomkmfopaaText
namespace Go.Proofs.Ytnhjmhomkmfopaa.fnCheckEqualityBigIntAgreesWithValue
open Go.ChangeShapes Go.WideShapes Go.ChangeAt Go.RowKit Big
set_option linter.unusedVariables false

/-- Has the text a radix? -/
def radix (s : ByteArray) : Bool := decide (2 ≤ s.size) && decide ((nats s)[0]? = some 48)
theorem nats_zero (s : ByteArray) (h : 0 < s.size) : (nats s)[0]? = some ((s[0]'h).toNat) := by
  unfold nats
  rw [List.getElem?_map]
  have : s.data.toList[0]? = some (s[0]'h) := by
    rw [Array.getElem?_toList]
    exact Array.getElem?_eq_getElem _
  rw [this]; rfl
theorem str_beq (a b : ByteArray) : (a.toList == b.toList) = decide (a = b) := by
  have e : ∀ x : ByteArray, x.toList = x.data.toList := fun x => by rw [ByteArray.toList_eq]
  by_cases h : a = b
  · subst h; simp
  · rw [decide_eq_false h, e, e]
    have : ¬ a.data.toList = b.data.toList := fun q => h (ByteArray.ext (Array.toList_inj.1 q))
    simpa using this
def Says (x y : Bool) (w : World) (e : Ending) (w' : World) : Prop := e = .returned (.tuple #[.bool x, .bool y]) ∧ w = w'
set_option maxHeartbeats 2000000 in
theorem check21 (a b : ByteArray) (ha : a.size ≤ 100) (hb : b.size ≤ 100) (w : World) :
    Calls Try.prog 21 #[.string a, .string b] w (Says (decide (a = b)) (decide (a = b) || (!radix a && !radix b)) w) := by
  have hq := str_beq a b
  by_cases h : a = b
  · subst h
    rw [decide_eq_true rfl] at hq ⊢
    go_enter Try.func21, Try.ntmps21
    go_wp2
    go_ret2
    exact ⟨rfl, rfl⟩
  · rw [decide_eq_false h] at hq ⊢
    have key : ∀ s : ByteArray, s.size < 2 ∧ radix s = false ∨ ∃ h2 : 0 < s.size, 2 ≤ s.size ∧ ∃ c : Nat, (s[0]'h2).toNat = c ∧ radix s = decide (c = 48) := fun s => by
      by_cases h2 : s.size < 2
      · exact .inl ⟨h2, by unfold radix; rw [decide_eq_false (by omega)]; rfl⟩
      · refine .inr ⟨by omega, by omega, _, rfl, ?_⟩
        unfold radix
        rw [decide_eq_true (by omega), Bool.true_and, nats_zero s (by omega)]
        simp
    have HN := Lib.hid h
    clear h
    rcases key a with ⟨a1, a2⟩ | ⟨a0, a1, ca, ea, a2⟩ <;> rcases key b with ⟨b1, b2⟩ | ⟨b0, b1, cb, eb, b2⟩
    · rw [a2, b2]
      clear key a2 b2
      go_enter Try.func21, Try.ntmps21
      go_wp2
      go_ret2
      exact ⟨rfl, rfl⟩
    · rw [a2, b2]
      clear key a2 b2
      by_cases h48 : cb = 48
      · subst h48
        go_enter Try.func21, Try.ntmps21
        go_wp2
        go_ret2
        exact ⟨rfl, rfl⟩
      · rw [decide_eq_false h48]
        have hn : ((cb : Int) != 48) = true := by rw [bne_iff_ne]; omega
        clear h48
        go_enter Try.func21, Try.ntmps21
        go_wp2
        go_ret2
        exact ⟨rfl, rfl⟩
    · rw [a2, b2]
      clear key a2 b2
      by_cases h48 : ca = 48
      · subst h48
        go_enter Try.func21, Try.ntmps21
        go_wp2
        go_ret2
        exact ⟨rfl, rfl⟩
      · rw [decide_eq_false h48]
        have hn : ((ca : Int) != 48) = true := by rw [bne_iff_ne]; omega
        clear h48
        go_enter Try.func21, Try.ntmps21
        go_wp2
        go_ret2
        exact ⟨rfl, rfl⟩
    · rw [a2, b2]
      clear key a2 b2
      by_cases g48 : ca = 48
      · subst g48
        go_enter Try.func21, Try.ntmps21
        go_wp2
        go_ret2
        exact ⟨rfl, rfl⟩
      · rw [decide_eq_false g48]
        have gn : ((ca : Int) != 48) = true := by rw [bne_iff_ne]; omega
        clear g48
        by_cases h48 : cb = 48
        · subst h48
          go_enter Try.func21, Try.ntmps21
          go_wp2
          go_ret2
          exact ⟨rfl, rfl⟩
        · rw [decide_eq_false h48]
          have hn : ((cb : Int) != 48) = true := by rw [bne_iff_ne]; omega
          clear h48
          go_enter Try.func21, Try.ntmps21
          go_wp2
          go_ret2
          exact ⟨rfl, rfl⟩
theorem radix_of {f v : Nat} {T : ByteArray} (h : Txt f v (nats T)) : radix T = decide (f % 4 ≠ 0) := by
  unfold radix
  by_cases hf : f % 4 = 0
  · obtain ⟨_, h1, h2⟩ := h.dec hf
    rw [nats_len] at h1 h2
    rw [decide_eq_false (not_not_intro hf)]
    by_cases h3 : 2 ≤ T.size
    · rw [decide_eq_false (h2 h3), Bool.and_false]
    · rw [decide_eq_false h3]; rfl
  · obtain ⟨h1, h2, _⟩ := h.rad hf
    rw [nats_len] at h1
    rw [decide_eq_true hf, decide_eq_true h2, decide_eq_true (by omega)]; rfl
theorem nats_inj {a b : ByteArray} (h : nats a = nats b) : a = b := by
  unfold nats at h
  have : a.data.toList = b.data.toList := (List.map_inj_right (fun x y q => UInt8.toNat_inj.1 q)).1 h
  exact ByteArray.ext (Array.toList_inj.1 this)
/-- The answer, in plain words. -/
theorem answer {f g x y : Nat} {S T : ByteArray} (hS : Txt f x (nats S)) (hT : Txt g y (nats T)) :
    ∃ eq ok : Bool, decide (S = T) = eq ∧ (decide (S = T) || (!radix S && !radix T)) = ok ∧ (ok = true → eq = decide (x = y)) ∧ (f % 4 = 0 → g % 4 = 0 → ok = true) ∧ (f % 4 = g % 4 → x = y → eq = true ∧ ok = true) := by
  refine ⟨_, _, rfl, rfl, fun h => ?_, fun h1 h2 => ?_, fun h1 h2 => ?_⟩
  · by_cases e : S = T
    · subst e
      rw [decide_eq_true rfl, decide_eq_true (hS.inj hT)]
    · rw [decide_eq_false e] at h ⊢
      rw [radix_of hS, radix_of hT] at h
      have hf : f % 4 = 0 ∧ g % 4 = 0 := by
        simp at h; omega
      refine (decide_eq_false fun q => e ?_).symm
      subst q
      exact nats_inj (hS.same (by omega) hT)
  · rw [radix_of hS, radix_of hT, decide_eq_false (not_not_intro h1), decide_eq_false (not_not_intro h2)]; simp
  · subst h2
    have : S = T := nats_inj (hS.same h1 hT)
    rw [decide_eq_true this]
    exact ⟨rfl, rfl⟩
theorem beqI (a b : Int) (c : Bool) (h : decide (a = b) = c) : (a == b) = c := by
  rw [← h]
  by_cases e : a = b
  · subst e; simp
  · rw [decide_eq_false e, beq_eq_false_iff_ne]; exact e
theorem imp6 {p q eq ok : Bool} (h1 : p = eq) (h2 : (p || q) = ok) : eq = true → ok = true := by
  rintro rfl
  rw [← h2, h1]; rfl
theorem k_same111 (x f g : Nat) (c2 : f % 4 = 0) (c3 : g % 4 = 0) (c4 : f % 4 = g % 4) : ∀ eq ok : Bool, (ok = true → eq = decide (x = x)) → (f % 4 = 0 → g % 4 = 0 → ok = true) → (f % 4 = g % 4 → x = x → eq = true ∧ ok = true) → (eq = true → ok = true) → (eq = true ∧ ok = true) := by
    intro eq ok Q3 Q4 Q5 Q6
    cases eq <;> cases ok
    all_goals first
      | (simp; done)
      | (exfalso; first | (have z := (Q3 rfl).symm; simp at z; done) | (have z := Q4 c2 c3; cases z; done) | (have z := (Q5 c4 rfl).1; cases z; done) | (have z := (Q5 c4 rfl).2; cases z; done) | (have z := Q6 rfl; cases z; done))
set_option maxRecDepth 100000 in
set_option maxHeartbeats 4000000 in
theorem same111 (x f g : Nat) (hx : x < 18446744073709551616) (hf : f < 256) (hg : g < 256) (c2 : f % 4 = 0) (c3 : g % 4 = 0) (c4 : f % 4 = g % 4) (w : World) :
    Calls Try.prog 6 #[.int .u64 (x : Int), .int .u64 (x : Int), .int .u8 (f : Int), .int .u8 (g : Int)] w fun e w' => e = .returned (.bool true) ∧ Below w.heap.size w w' := by
  have HX := Lib.hid (fun W => text x f hx hf W)
  have HY := Lib.hid (fun W => text x g hx hg W)
  clear hx 

  have hff : ((f : Int) % 4 == 0) = true := beqI _ _ _ (decide_eq_true (by omega))
  have hgg : ((g : Int) % 4 == 0) = true := beqI _ _ _ (decide_eq_true (by omega))
  have hfg : ((f : Int) % 4 == (g : Int) % 4) = true := beqI _ _ _ (decide_eq_true (by omega))
  have C2 := Lib.hid c2
  have C3 := Lib.hid c3
  have C4 := Lib.hid c4
  clear c2 c3 c4 
  go_enter Try.func6, Try.ntmps6
  go_wp2_with (first
    | (go_at_call 20; (with_reducible refine (HX.out w).mono ?_); rintro _ wa ⟨S, rfl, hS, hwa, hSz⟩; have HS := Lib.hid hS; clear hS HX)
    | (go_at_call 20; (with_reducible refine (HY.out wa).mono ?_); rintro _ wb ⟨T, rfl, hT, hwb, hTz⟩; obtain ⟨eq, ok, q1, q2, q3, q4, q5⟩ := answer HS.out hT; have hc := check21 S T hSz hTz wb; have q6 := imp6 q1 q2; rw [q2, q1] at hc; have HC := Lib.hid hc; have q7 := k_same111 x f g C2.out C3.out C4.out eq ok q3 q4 q5 q6; clear q1 q2 q3 q4 q5 q6 hT hc; obtain ⟨rfl, rfl⟩ := q7)
    | (go_at_call 21; (with_reducible refine HC.out.mono ?_); rintro _ _ ⟨rfl, rfl⟩))
  all_goals (go_ret; exact ⟨rfl, hwa.trans (hwb.mono hwa.size)⟩)
theorem k_same100 (x f g : Nat) (c2 : f % 4 = 0) (c3 : g % 4 ≠ 0) (c4 : f % 4 ≠ g % 4) : ∀ eq ok : Bool, (ok = true → eq = decide (x = x)) → (f % 4 = 0 → g % 4 = 0 → ok = true) → (f % 4 = g % 4 → x = x → eq = true ∧ ok = true) → (eq = true → ok = true) → (eq = true ∧ ok = true) ∨ (eq = false ∧ ok = false) := by
    intro eq ok Q3 Q4 Q5 Q6
    cases eq <;> cases ok
    all_goals first
      | (simp; done)
      | (exfalso; first | (have z := (Q3 rfl).symm; simp at z; done) | (have z := Q6 rfl; cases z; done))
set_option maxRecDepth 100000 in
set_option maxHeartbeats 4000000 in
theorem same100 (x f g : Nat) (hx : x < 18446744073709551616) (hf : f < 256) (hg : g < 256) (c2 : f % 4 = 0) (c3 : g % 4 ≠ 0) (c4 : f % 4 ≠ g % 4) (w : World) :
    Calls Try.prog 6 #[.int .u64 (x : Int), .int .u64 (x : Int), .int .u8 (f : Int), .int .u8 (g : Int)] w fun e w' => e = .returned (.bool true) ∧ Below w.heap.size w w' := by
  have HX := Lib.hid (fun W => text x f hx hf W)
  have HY := Lib.hid (fun W => text x g hx hg W)
  clear hx 

  have hff : ((f : Int) % 4 == 0) = true := beqI _ _ _ (decide_eq_true (by omega))
  have hgg : ((g : Int) % 4 == 0) = false := beqI _ _ _ (decide_eq_false (by omega))
  have hfg : ((f : Int) % 4 == (g : Int) % 4) = false := beqI _ _ _ (decide_eq_false (by omega))
  have C2 := Lib.hid c2
  have C3 := Lib.hid c3
  have C4 := Lib.hid c4
  clear c2 c3 c4 
  go_enter Try.func6, Try.ntmps6
  go_wp2_with (first
    | (go_at_call 20; (with_reducible refine (HX.out w).mono ?_); rintro _ wa ⟨S, rfl, hS, hwa, hSz⟩; have HS := Lib.hid hS; clear hS HX)
    | (go_at_call 20; (with_reducible refine (HY.out wa).mono ?_); rintro _ wb ⟨T, rfl, hT, hwb, hTz⟩; obtain ⟨eq, ok, q1, q2, q3, q4, q5⟩ := answer HS.out hT; have hc := check21 S T hSz hTz wb; have q6 := imp6 q1 q2; rw [q2, q1] at hc; have HC := Lib.hid hc; have q7 := k_same100 x f g C2.out C3.out C4.out eq ok q3 q4 q5 q6; clear q1 q2 q3 q4 q5 q6 hT hc; rcases q7 with ⟨rfl, rfl⟩ | ⟨rfl, rfl⟩)
    | (go_at_call 21; (with_reducible refine HC.out.mono ?_); rintro _ _ ⟨rfl, rfl⟩))
  all_goals (go_ret; exact ⟨rfl, hwa.trans (hwb.mono hwa.size)⟩)
theorem k_same010 (x f g : Nat) (c2 : f % 4 ≠ 0) (c3 : g % 4 = 0) (c4 : f % 4 ≠ g % 4) : ∀ eq ok : Bool, (ok = true → eq = decide (x = x)) → (f % 4 = 0 → g % 4 = 0 → ok = true) → (f % 4 = g % 4 → x = x → eq = true ∧ ok = true) → (eq = true → ok = true) → (eq = true ∧ ok = true) ∨ (eq = false ∧ ok = false) := by
    intro eq ok Q3 Q4 Q5 Q6
    cases eq <;> cases ok
    all_goals first
      | (simp; done)
      | (exfalso; first | (have z := (Q3 rfl).symm; simp at z; done) | (have z := Q6 rfl; cases z; done))
set_option maxRecDepth 100000 in
set_option maxHeartbeats 4000000 in
theorem same010 (x f g : Nat) (hx : x < 18446744073709551616) (hf : f < 256) (hg : g < 256) (c2 : f % 4 ≠ 0) (c3 : g % 4 = 0) (c4 : f % 4 ≠ g % 4) (w : World) :
    Calls Try.prog 6 #[.int .u64 (x : Int), .int .u64 (x : Int), .int .u8 (f : Int), .int .u8 (g : Int)] w fun e w' => e = .returned (.bool true) ∧ Below w.heap.size w w' := by
  have HX := Lib.hid (fun W => text x f hx hf W)
  have HY := Lib.hid (fun W => text x g hx hg W)
  clear hx 

  have hff : ((f : Int) % 4 == 0) = false := beqI _ _ _ (decide_eq_false (by omega))
  have hgg : ((g : Int) % 4 == 0) = true := beqI _ _ _ (decide_eq_true (by omega))
  have hfg : ((f : Int) % 4 == (g : Int) % 4) = false := beqI _ _ _ (decide_eq_false (by omega))
  have C2 := Lib.hid c2
  have C3 := Lib.hid c3
  have C4 := Lib.hid c4
  clear c2 c3 c4 
  go_enter Try.func6, Try.ntmps6
  go_wp2_with (first
    | (go_at_call 20; (with_reducible refine (HX.out w).mono ?_); rintro _ wa ⟨S, rfl, hS, hwa, hSz⟩; have HS := Lib.hid hS; clear hS HX)
    | (go_at_call 20; (with_reducible refine (HY.out wa).mono ?_); rintro _ wb ⟨T, rfl, hT, hwb, hTz⟩; obtain ⟨eq, ok, q1, q2, q3, q4, q5⟩ := answer HS.out hT; have hc := check21 S T hSz hTz wb; have q6 := imp6 q1 q2; rw [q2, q1] at hc; have HC := Lib.hid hc; have q7 := k_same010 x f g C2.out C3.out C4.out eq ok q3 q4 q5 q6; clear q1 q2 q3 q4 q5 q6 hT hc; rcases q7 with ⟨rfl, rfl⟩ | ⟨rfl, rfl⟩)
    | (go_at_call 21; (with_reducible refine HC.out.mono ?_); rintro _ _ ⟨rfl, rfl⟩))
  all_goals (go_ret; exact ⟨rfl, hwa.trans (hwb.mono hwa.size)⟩)
theorem k_same001 (x f g : Nat) (c2 : f % 4 ≠ 0) (c3 : g % 4 ≠ 0) (c4 : f % 4 = g % 4) : ∀ eq ok : Bool, (ok = true → eq = decide (x = x)) → (f % 4 = 0 → g % 4 = 0 → ok = true) → (f % 4 = g % 4 → x = x → eq = true ∧ ok = true) → (eq = true → ok = true) → (eq = true ∧ ok = true) := by
    intro eq ok Q3 Q4 Q5 Q6
    cases eq <;> cases ok
    all_goals first
      | (simp; done)
      | (exfalso; first | (have z := (Q3 rfl).symm; simp at z; done) | (have z := (Q5 c4 rfl).1; cases z; done) | (have z := (Q5 c4 rfl).2; cases z; done) | (have z := Q6 rfl; cases z; done))
set_option maxRecDepth 100000 in
set_option maxHeartbeats 4000000 in
theorem same001 (x f g : Nat) (hx : x < 18446744073709551616) (hf : f < 256) (hg : g < 256) (c2 : f % 4 ≠ 0) (c3 : g % 4 ≠ 0) (c4 : f % 4 = g % 4) (w : World) :
    Calls Try.prog 6 #[.int .u64 (x : Int), .int .u64 (x : Int), .int .u8 (f : Int), .int .u8 (g : Int)] w fun e w' => e = .returned (.bool true) ∧ Below w.heap.size w w' := by
  have HX := Lib.hid (fun W => text x f hx hf W)
  have HY := Lib.hid (fun W => text x g hx hg W)
  clear hx 

  have hff : ((f : Int) % 4 == 0) = false := beqI _ _ _ (decide_eq_false (by omega))
  have hgg : ((g : Int) % 4 == 0) = false := beqI _ _ _ (decide_eq_false (by omega))
  have hfg : ((f : Int) % 4 == (g : Int) % 4) = true := beqI _ _ _ (decide_eq_true (by omega))
  have C2 := Lib.hid c2
  have C3 := Lib.hid c3
  have C4 := Lib.hid c4
  clear c2 c3 c4 
  go_enter Try.func6, Try.ntmps6
  go_wp2_with (first
    | (go_at_call 20; (with_reducible refine (HX.out w).mono ?_); rintro _ wa ⟨S, rfl, hS, hwa, hSz⟩; have HS := Lib.hid hS; clear hS HX)
    | (go_at_call 20; (with_reducible refine (HY.out wa).mono ?_); rintro _ wb ⟨T, rfl, hT, hwb, hTz⟩; obtain ⟨eq, ok, q1, q2, q3, q4, q5⟩ := answer HS.out hT; have hc := check21 S T hSz hTz wb; have q6 := imp6 q1 q2; rw [q2, q1] at hc; have HC := Lib.hid hc; have q7 := k_same001 x f g C2.out C3.out C4.out eq ok q3 q4 q5 q6; clear q1 q2 q3 q4 q5 q6 hT hc; obtain ⟨rfl, rfl⟩ := q7)
    | (go_at_call 21; (with_reducible refine HC.out.mono ?_); rintro _ _ ⟨rfl, rfl⟩))
  all_goals (go_ret; exact ⟨rfl, hwa.trans (hwb.mono hwa.size)⟩)
theorem k_same000 (x f g : Nat) (c2 : f % 4 ≠ 0) (c3 : g % 4 ≠ 0) (c4 : f % 4 ≠ g % 4) : ∀ eq ok : Bool, (ok = true → eq = decide (x = x)) → (f % 4 = 0 → g % 4 = 0 → ok = true) → (f % 4 = g % 4 → x = x → eq = true ∧ ok = true) → (eq = true → ok = true) → (eq = true ∧ ok = true) ∨ (eq = false ∧ ok = false) := by
    intro eq ok Q3 Q4 Q5 Q6
    cases eq <;> cases ok
    all_goals first
      | (simp; done)
      | (exfalso; first | (have z := (Q3 rfl).symm; simp at z; done) | (have z := Q6 rfl; cases z; done))
set_option maxRecDepth 100000 in
set_option maxHeartbeats 4000000 in
theorem same000 (x f g : Nat) (hx : x < 18446744073709551616) (hf : f < 256) (hg : g < 256) (c2 : f % 4 ≠ 0) (c3 : g % 4 ≠ 0) (c4 : f % 4 ≠ g % 4) (w : World) :
    Calls Try.prog 6 #[.int .u64 (x : Int), .int .u64 (x : Int), .int .u8 (f : Int), .int .u8 (g : Int)] w fun e w' => e = .returned (.bool true) ∧ Below w.heap.size w w' := by
  have HX := Lib.hid (fun W => text x f hx hf W)
  have HY := Lib.hid (fun W => text x g hx hg W)
  clear hx 

  have hff : ((f : Int) % 4 == 0) = false := beqI _ _ _ (decide_eq_false (by omega))
  have hgg : ((g : Int) % 4 == 0) = false := beqI _ _ _ (decide_eq_false (by omega))
  have hfg : ((f : Int) % 4 == (g : Int) % 4) = false := beqI _ _ _ (decide_eq_false (by omega))
  have C2 := Lib.hid c2
  have C3 := Lib.hid c3
  have C4 := Lib.hid c4
  clear c2 c3 c4 
  go_enter Try.func6, Try.ntmps6
  go_wp2_with (first
    | (go_at_call 20; (with_reducible refine (HX.out w).mono ?_); rintro _ wa ⟨S, rfl, hS, hwa, hSz⟩; have HS := Lib.hid hS; clear hS HX)
    | (go_at_call 20; (with_reducible refine (HY.out wa).mono ?_); rintro _ wb ⟨T, rfl, hT, hwb, hTz⟩; obtain ⟨eq, ok, q1, q2, q3, q4, q5⟩ := answer HS.out hT; have hc := check21 S T hSz hTz wb; have q6 := imp6 q1 q2; rw [q2, q1] at hc; have HC := Lib.hid hc; have q7 := k_same000 x f g C2.out C3.out C4.out eq ok q3 q4 q5 q6; clear q1 q2 q3 q4 q5 q6 hT hc; rcases q7 with ⟨rfl, rfl⟩ | ⟨rfl, rfl⟩)
    | (go_at_call 21; (with_reducible refine HC.out.mono ?_); rintro _ _ ⟨rfl, rfl⟩))
  all_goals (go_ret; exact ⟨rfl, hwa.trans (hwb.mono hwa.size)⟩)
theorem k_diff111 (x y f g : Nat) (hne : x ≠ y) (c2 : f % 4 = 0) (c3 : g % 4 = 0) (c4 : f % 4 = g % 4) : ∀ eq ok : Bool, (ok = true → eq = decide (x = y)) → (f % 4 = 0 → g % 4 = 0 → ok = true) → (f % 4 = g % 4 → x = y → eq = true ∧ ok = true) → (eq = true → ok = true) → (eq = false ∧ ok = true) := by
    intro eq ok Q3 Q4 Q5 Q6
    cases eq <;> cases ok
    all_goals first
      | (simp; done)
      | (exfalso; first | (have z := Q3 rfl; rw [decide_eq_false hne] at z; cases z; done) | (have z := Q4 c2 c3; cases z; done) | (have z := Q6 rfl; cases z; done))
set_option maxRecDepth 100000 in
set_option maxHeartbeats 4000000 in
theorem diff111 (x y f g : Nat) (hx : x < 18446744073709551616) (hy : y < 18446744073709551616) (hf : f < 256) (hg : g < 256) (hne : x ≠ y) (c2 : f % 4 = 0) (c3 : g % 4 = 0) (c4 : f % 4 = g % 4) (w : World) :
    Calls Try.prog 6 #[.int .u64 (x : Int), .int .u64 (y : Int), .int .u8 (f : Int), .int .u8 (g : Int)] w fun e w' => e = .returned (.bool true) ∧ Below w.heap.size w w' := by
  have HX := Lib.hid (fun W => text x f hx hf W)
  have HY := Lib.hid (fun W => text y g hy hg W)
  clear hx hy
  have hxy : ((x : Int) == (y : Int)) = false := beqI _ _ _ (decide_eq_false (by omega))
  have hff : ((f : Int) % 4 == 0) = true := beqI _ _ _ (decide_eq_true (by omega))
  have hgg : ((g : Int) % 4 == 0) = true := beqI _ _ _ (decide_eq_true (by omega))
  have hfg : ((f : Int) % 4 == (g : Int) % 4) = true := beqI _ _ _ (decide_eq_true (by omega))
  have C2 := Lib.hid c2
  have C3 := Lib.hid c3
  have C4 := Lib.hid c4
  have CN := Lib.hid hne
  clear c2 c3 c4 hne
  go_enter Try.func6, Try.ntmps6
  go_wp2_with (first
    | (go_at_call 20; (with_reducible refine (HX.out w).mono ?_); rintro _ wa ⟨S, rfl, hS, hwa, hSz⟩; have HS := Lib.hid hS; clear hS HX)
    | (go_at_call 20; (with_reducible refine (HY.out wa).mono ?_); rintro _ wb ⟨T, rfl, hT, hwb, hTz⟩; obtain ⟨eq, ok, q1, q2, q3, q4, q5⟩ := answer HS.out hT; have hc := check21 S T hSz hTz wb; have q6 := imp6 q1 q2; rw [q2, q1] at hc; have HC := Lib.hid hc; have q7 := k_diff111 x y f g CN.out C2.out C3.out C4.out eq ok q3 q4 q5 q6; clear q1 q2 q3 q4 q5 q6 hT hc; obtain ⟨rfl, rfl⟩ := q7)
    | (go_at_call 21; (with_reducible refine HC.out.mono ?_); rintro _ _ ⟨rfl, rfl⟩))
  all_goals (go_ret; exact ⟨rfl, hwa.trans (hwb.mono hwa.size)⟩)
theorem k_diff100 (x y f g : Nat) (hne : x ≠ y) (c2 : f % 4 = 0) (c3 : g % 4 ≠ 0) (c4 : f % 4 ≠ g % 4) : ∀ eq ok : Bool, (ok = true → eq = decide (x = y)) → (f % 4 = 0 → g % 4 = 0 → ok = true) → (f % 4 = g % 4 → x = y → eq = true ∧ ok = true) → (eq = true → ok = true) → (eq = false ∧ ok = true) ∨ (eq = false ∧ ok = false) := by
    intro eq ok Q3 Q4 Q5 Q6
    cases eq <;> cases ok
    all_goals first
      | (simp; done)
      | (exfalso; first | (have z := Q3 rfl; rw [decide_eq_false hne] at z; cases z; done) | (have z := Q6 rfl; cases z; done))
set_option maxRecDepth 100000 in
set_option maxHeartbeats 4000000 in
theorem diff100 (x y f g : Nat) (hx : x < 18446744073709551616) (hy : y < 18446744073709551616) (hf : f < 256) (hg : g < 256) (hne : x ≠ y) (c2 : f % 4 = 0) (c3 : g % 4 ≠ 0) (c4 : f % 4 ≠ g % 4) (w : World) :
    Calls Try.prog 6 #[.int .u64 (x : Int), .int .u64 (y : Int), .int .u8 (f : Int), .int .u8 (g : Int)] w fun e w' => e = .returned (.bool true) ∧ Below w.heap.size w w' := by
  have HX := Lib.hid (fun W => text x f hx hf W)
  have HY := Lib.hid (fun W => text y g hy hg W)
  clear hx hy
  have hxy : ((x : Int) == (y : Int)) = false := beqI _ _ _ (decide_eq_false (by omega))
  have hff : ((f : Int) % 4 == 0) = true := beqI _ _ _ (decide_eq_true (by omega))
  have hgg : ((g : Int) % 4 == 0) = false := beqI _ _ _ (decide_eq_false (by omega))
  have hfg : ((f : Int) % 4 == (g : Int) % 4) = false := beqI _ _ _ (decide_eq_false (by omega))
  have C2 := Lib.hid c2
  have C3 := Lib.hid c3
  have C4 := Lib.hid c4
  have CN := Lib.hid hne
  clear c2 c3 c4 hne
  go_enter Try.func6, Try.ntmps6
  go_wp2_with (first
    | (go_at_call 20; (with_reducible refine (HX.out w).mono ?_); rintro _ wa ⟨S, rfl, hS, hwa, hSz⟩; have HS := Lib.hid hS; clear hS HX)
    | (go_at_call 20; (with_reducible refine (HY.out wa).mono ?_); rintro _ wb ⟨T, rfl, hT, hwb, hTz⟩; obtain ⟨eq, ok, q1, q2, q3, q4, q5⟩ := answer HS.out hT; have hc := check21 S T hSz hTz wb; have q6 := imp6 q1 q2; rw [q2, q1] at hc; have HC := Lib.hid hc; have q7 := k_diff100 x y f g CN.out C2.out C3.out C4.out eq ok q3 q4 q5 q6; clear q1 q2 q3 q4 q5 q6 hT hc; rcases q7 with ⟨rfl, rfl⟩ | ⟨rfl, rfl⟩)
    | (go_at_call 21; (with_reducible refine HC.out.mono ?_); rintro _ _ ⟨rfl, rfl⟩))
  all_goals (go_ret; exact ⟨rfl, hwa.trans (hwb.mono hwa.size)⟩)
theorem k_diff010 (x y f g : Nat) (hne : x ≠ y) (c2 : f % 4 ≠ 0) (c3 : g % 4 = 0) (c4 : f % 4 ≠ g % 4) : ∀ eq ok : Bool, (ok = true → eq = decide (x = y)) → (f % 4 = 0 → g % 4 = 0 → ok = true) → (f % 4 = g % 4 → x = y → eq = true ∧ ok = true) → (eq = true → ok = true) → (eq = false ∧ ok = true) ∨ (eq = false ∧ ok = false) := by
    intro eq ok Q3 Q4 Q5 Q6
    cases eq <;> cases ok
    all_goals first
      | (simp; done)
      | (exfalso; first | (have z := Q3 rfl; rw [decide_eq_false hne] at z; cases z; done) | (have z := Q6 rfl; cases z; done))
set_option maxRecDepth 100000 in
set_option maxHeartbeats 4000000 in
theorem diff010 (x y f g : Nat) (hx : x < 18446744073709551616) (hy : y < 18446744073709551616) (hf : f < 256) (hg : g < 256) (hne : x ≠ y) (c2 : f % 4 ≠ 0) (c3 : g % 4 = 0) (c4 : f % 4 ≠ g % 4) (w : World) :
    Calls Try.prog 6 #[.int .u64 (x : Int), .int .u64 (y : Int), .int .u8 (f : Int), .int .u8 (g : Int)] w fun e w' => e = .returned (.bool true) ∧ Below w.heap.size w w' := by
  have HX := Lib.hid (fun W => text x f hx hf W)
  have HY := Lib.hid (fun W => text y g hy hg W)
  clear hx hy
  have hxy : ((x : Int) == (y : Int)) = false := beqI _ _ _ (decide_eq_false (by omega))
  have hff : ((f : Int) % 4 == 0) = false := beqI _ _ _ (decide_eq_false (by omega))
  have hgg : ((g : Int) % 4 == 0) = true := beqI _ _ _ (decide_eq_true (by omega))
  have hfg : ((f : Int) % 4 == (g : Int) % 4) = false := beqI _ _ _ (decide_eq_false (by omega))
  have C2 := Lib.hid c2
  have C3 := Lib.hid c3
  have C4 := Lib.hid c4
  have CN := Lib.hid hne
  clear c2 c3 c4 hne
  go_enter Try.func6, Try.ntmps6
  go_wp2_with (first
    | (go_at_call 20; (with_reducible refine (HX.out w).mono ?_); rintro _ wa ⟨S, rfl, hS, hwa, hSz⟩; have HS := Lib.hid hS; clear hS HX)
    | (go_at_call 20; (with_reducible refine (HY.out wa).mono ?_); rintro _ wb ⟨T, rfl, hT, hwb, hTz⟩; obtain ⟨eq, ok, q1, q2, q3, q4, q5⟩ := answer HS.out hT; have hc := check21 S T hSz hTz wb; have q6 := imp6 q1 q2; rw [q2, q1] at hc; have HC := Lib.hid hc; have q7 := k_diff010 x y f g CN.out C2.out C3.out C4.out eq ok q3 q4 q5 q6; clear q1 q2 q3 q4 q5 q6 hT hc; rcases q7 with ⟨rfl, rfl⟩ | ⟨rfl, rfl⟩)
    | (go_at_call 21; (with_reducible refine HC.out.mono ?_); rintro _ _ ⟨rfl, rfl⟩))
  all_goals (go_ret; exact ⟨rfl, hwa.trans (hwb.mono hwa.size)⟩)
theorem k_diff001 (x y f g : Nat) (hne : x ≠ y) (c2 : f % 4 ≠ 0) (c3 : g % 4 ≠ 0) (c4 : f % 4 = g % 4) : ∀ eq ok : Bool, (ok = true → eq = decide (x = y)) → (f % 4 = 0 → g % 4 = 0 → ok = true) → (f % 4 = g % 4 → x = y → eq = true ∧ ok = true) → (eq = true → ok = true) → (eq = false ∧ ok = true) ∨ (eq = false ∧ ok = false) := by
    intro eq ok Q3 Q4 Q5 Q6
    cases eq <;> cases ok
    all_goals first
      | (simp; done)
      | (exfalso; first | (have z := Q3 rfl; rw [decide_eq_false hne] at z; cases z; done) | (have z := Q6 rfl; cases z; done))
set_option maxRecDepth 100000 in
set_option maxHeartbeats 4000000 in
theorem diff001 (x y f g : Nat) (hx : x < 18446744073709551616) (hy : y < 18446744073709551616) (hf : f < 256) (hg : g < 256) (hne : x ≠ y) (c2 : f % 4 ≠ 0) (c3 : g % 4 ≠ 0) (c4 : f % 4 = g % 4) (w : World) :
    Calls Try.prog 6 #[.int .u64 (x : Int), .int .u64 (y : Int), .int .u8 (f : Int), .int .u8 (g : Int)] w fun e w' => e = .returned (.bool true) ∧ Below w.heap.size w w' := by
  have HX := Lib.hid (fun W => text x f hx hf W)
  have HY := Lib.hid (fun W => text y g hy hg W)
  clear hx hy
  have hxy : ((x : Int) == (y : Int)) = false := beqI _ _ _ (decide_eq_false (by omega))
  have hff : ((f : Int) % 4 == 0) = false := beqI _ _ _ (decide_eq_false (by omega))
  have hgg : ((g : Int) % 4 == 0) = false := beqI _ _ _ (decide_eq_false (by omega))
  have hfg : ((f : Int) % 4 == (g : Int) % 4) = true := beqI _ _ _ (decide_eq_true (by omega))
  have C2 := Lib.hid c2
  have C3 := Lib.hid c3
  have C4 := Lib.hid c4
  have CN := Lib.hid hne
  clear c2 c3 c4 hne
  go_enter Try.func6, Try.ntmps6
  go_wp2_with (first
    | (go_at_call 20; (with_reducible refine (HX.out w).mono ?_); rintro _ wa ⟨S, rfl, hS, hwa, hSz⟩; have HS := Lib.hid hS; clear hS HX)
    | (go_at_call 20; (with_reducible refine (HY.out wa).mono ?_); rintro _ wb ⟨T, rfl, hT, hwb, hTz⟩; obtain ⟨eq, ok, q1, q2, q3, q4, q5⟩ := answer HS.out hT; have hc := check21 S T hSz hTz wb; have q6 := imp6 q1 q2; rw [q2, q1] at hc; have HC := Lib.hid hc; have q7 := k_diff001 x y f g CN.out C2.out C3.out C4.out eq ok q3 q4 q5 q6; clear q1 q2 q3 q4 q5 q6 hT hc; rcases q7 with ⟨rfl, rfl⟩ | ⟨rfl, rfl⟩)
    | (go_at_call 21; (with_reducible refine HC.out.mono ?_); rintro _ _ ⟨rfl, rfl⟩))
  all_goals (go_ret; exact ⟨rfl, hwa.trans (hwb.mono hwa.size)⟩)
theorem k_diff000 (x y f g : Nat) (hne : x ≠ y) (c2 : f % 4 ≠ 0) (c3 : g % 4 ≠ 0) (c4 : f % 4 ≠ g % 4) : ∀ eq ok : Bool, (ok = true → eq = decide (x = y)) → (f % 4 = 0 → g % 4 = 0 → ok = true) → (f % 4 = g % 4 → x = y → eq = true ∧ ok = true) → (eq = true → ok = true) → (eq = false ∧ ok = true) ∨ (eq = false ∧ ok = false) := by
    intro eq ok Q3 Q4 Q5 Q6
    cases eq <;> cases ok
    all_goals first
      | (simp; done)
      | (exfalso; first | (have z := Q3 rfl; rw [decide_eq_false hne] at z; cases z; done) | (have z := Q6 rfl; cases z; done))
set_option maxRecDepth 100000 in
set_option maxHeartbeats 4000000 in
theorem diff000 (x y f g : Nat) (hx : x < 18446744073709551616) (hy : y < 18446744073709551616) (hf : f < 256) (hg : g < 256) (hne : x ≠ y) (c2 : f % 4 ≠ 0) (c3 : g % 4 ≠ 0) (c4 : f % 4 ≠ g % 4) (w : World) :
    Calls Try.prog 6 #[.int .u64 (x : Int), .int .u64 (y : Int), .int .u8 (f : Int), .int .u8 (g : Int)] w fun e w' => e = .returned (.bool true) ∧ Below w.heap.size w w' := by
  have HX := Lib.hid (fun W => text x f hx hf W)
  have HY := Lib.hid (fun W => text y g hy hg W)
  clear hx hy
  have hxy : ((x : Int) == (y : Int)) = false := beqI _ _ _ (decide_eq_false (by omega))
  have hff : ((f : Int) % 4 == 0) = false := beqI _ _ _ (decide_eq_false (by omega))
  have hgg : ((g : Int) % 4 == 0) = false := beqI _ _ _ (decide_eq_false (by omega))
  have hfg : ((f : Int) % 4 == (g : Int) % 4) = false := beqI _ _ _ (decide_eq_false (by omega))
  have C2 := Lib.hid c2
  have C3 := Lib.hid c3
  have C4 := Lib.hid c4
  have CN := Lib.hid hne
  clear c2 c3 c4 hne
  go_enter Try.func6, Try.ntmps6
  go_wp2_with (first
    | (go_at_call 20; (with_reducible refine (HX.out w).mono ?_); rintro _ wa ⟨S, rfl, hS, hwa, hSz⟩; have HS := Lib.hid hS; clear hS HX)
    | (go_at_call 20; (with_reducible refine (HY.out wa).mono ?_); rintro _ wb ⟨T, rfl, hT, hwb, hTz⟩; obtain ⟨eq, ok, q1, q2, q3, q4, q5⟩ := answer HS.out hT; have hc := check21 S T hSz hTz wb; have q6 := imp6 q1 q2; rw [q2, q1] at hc; have HC := Lib.hid hc; have q7 := k_diff000 x y f g CN.out C2.out C3.out C4.out eq ok q3 q4 q5 q6; clear q1 q2 q3 q4 q5 q6 hT hc; rcases q7 with ⟨rfl, rfl⟩ | ⟨rfl, rfl⟩)
    | (go_at_call 21; (with_reducible refine HC.out.mono ?_); rintro _ _ ⟨rfl, rfl⟩))
  all_goals (go_ret; exact ⟨rfl, hwa.trans (hwb.mono hwa.size)⟩)
theorem walk (a0 : Int) (a1 : Int) (a2 : Int) (a3 : Int) (w : World) (w0 : (Lit.int .u64 a0).wf = true) (w1 : (Lit.int .u64 a1).wf = true) (w2 : (Lit.int .u8 a2).wf = true) (w3 : (Lit.int .u8 a3).wf = true) :
    Calls Try.prog 6 #[.int .u64 a0, .int .u64 a1, .int .u8 a2, .int .u8 a3] w fun e w' => e = .returned (.bool true) ∧ Below w.heap.size w w' := by
  obtain ⟨x, rfl, hx⟩ := nat_u64 w0
  obtain ⟨y, rfl, hy⟩ := nat_u64 w1
  obtain ⟨f, rfl, hf⟩ := nat_u8 w2
  obtain ⟨g, rfl, hg⟩ := nat_u8 w3
  by_cases c1 : x = y
  · subst c1
    by_cases c2 : f % 4 = 0 <;> by_cases c3 : g % 4 = 0
    · exact same111 x f g hx hf hg c2 c3 (by omega) w
    · exact same100 x f g hx hf hg c2 c3 (by omega) w
    · exact same010 x f g hx hf hg c2 c3 (by omega) w
    · by_cases c4 : f % 4 = g % 4
      · exact same001 x f g hx hf hg c2 c3 c4 w
      · exact same000 x f g hx hf hg c2 c3 c4 w
  · by_cases c2 : f % 4 = 0 <;> by_cases c3 : g % 4 = 0
    · exact diff111 x y f g hx hy hf hg c1 c2 c3 (by omega) w
    · exact diff100 x y f g hx hy hf hg c1 c2 c3 (by omega) w
    · exact diff010 x y f g hx hy hf hg c1 c2 c3 (by omega) w
    · by_cases c4 : f % 4 = g % 4
      · exact diff001 x y f g hx hy hf hg c1 c2 c3 c4 w
      · exact diff000 x y f g hx hy hf hg c1 c2 c3 c4 w
end Go.Proofs.Ytnhjmhomkmfopaa.fnCheckEqualityBigIntAgreesWithValue
