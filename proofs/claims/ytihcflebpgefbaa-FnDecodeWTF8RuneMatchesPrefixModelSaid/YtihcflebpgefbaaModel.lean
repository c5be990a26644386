/-
  The contract of decodeModel. No condition.
-/
import Derived.Test.YtihcflebpgefbaaEnc
import Derived.Deep.QuietTactic
import Derived.BigQuiet
import Derived.LoopN
namespace Go.Proofs.Ytihcflebpgefbaa
open Go.ChangeShapes Go.WideShapes Go.ChangeAt Go.RowKit
set_option linter.unusedVariables false

def GivesB (r : Nat × Nat) (w : World) (e : Ending) (w' : World) : Prop := e = .returned (.tuple #[.int .i32 (r.1 : Int), .int .i64 (r.2 : Int)]) ∧ Below w.heap.size w w'
theorem below_drewN {B : Nat} {a w : World} (h : Below B a w) (n : Nat) : Below B a (w.drewN n) := ⟨h.os, h.tape, h.output, h.size, h.block⟩
theorem below_end {w wa : World} (n m : Nat) (o : Obj) (h : Below (w.drewN n).heap.size (w.drewN n) wa) : Below w.heap.size w ((wa.alloc o).drewN m) :=
  below_drewN (((below_drewN (Below.refl _ w) n).trans h).alloc h.size o) m
theorem below_end0 {w wa : World} (m : Nat) (o : Obj) (h : Below w.heap.size w wa) : Below w.heap.size w ((wa.alloc o).drewN m) := below_drewN (h.alloc h.size o) m
theorem below_end1 {w wa : World} (o : Obj) (h : Below w.heap.size w wa) : Below w.heap.size w (wa.alloc o) := h.alloc h.size o
theorem below_end2 {w wa : World} (n : Nat) (o : Obj) (h : Below (w.drewN n).heap.size (w.drewN n) wa) : Below w.heap.size w (wa.alloc o) :=
  ((below_drewN (Below.refl _ w) n).trans h).alloc h.size o
set_option maxRecDepth 100000 in
set_option maxHeartbeats 8000000 in
theorem mod2 (s : ByteArray) (a b cp : Nat) (hcp : cp = (a - 192) * 64 + b % 64) (hs : s.size ≤ 4194304) (hn : 2 ≤ s.size) (e0 : (s[0]'(by omega)).toNat = a) (e1 : (s[1]'(by omega)).toNat = b) (ha : 192 ≤ a) (ha2 : a < 224) (hb : b < 256) (w : World) :
    Calls Try.prog 6 #[.string s] w (GivesB (if b / 64 = 2 ∧ 128 ≤ cp then (cp, 2) else (65533, 1)) w) := by
  have bcp : cp < 2048 := by omega
  have hz : ((s.size : Int) == 0) = false := by rw [beq_eq_false_iff_ne]; omega
  have HCP := Lib.hid hcp
  by_cases hlow : cp < 128
  · rw [if_neg (by omega)]
    clear hcp
    go_enter Try.func6, Try.ntmps6
    go_wp2_with (go_at_call 7; (with_reducible refine (enc1 _ cp (by have := HCP.out; omega) hlow _).mono ?_); rintro _ wa ⟨rfl, hwa⟩)
    go_ret2
    first | exact ⟨rfl, below_end0 _ _ hwa⟩ | exact ⟨rfl, below_end _ _ _ hwa⟩ | exact ⟨rfl, below_end1 _ hwa⟩ | exact ⟨rfl, below_end2 _ _ hwa⟩
  by_cases nb1 : ¬ b / 64 = 2
  · rw [if_neg (by omega)]
    obtain ⟨v1, hv1⟩ : ∃ v, v = 128 + cp % 64 := ⟨_, rfl⟩
    have HE : Hid (∀ (v : Int) (W : World), v = cp → Calls Try.prog 7 #[.int .u32 v] W (EncTo a v1 0 0 2 W)) := fun v W hv => by
      have q := enc2 v cp hv (by omega) bcp W
      rw [show 192 + cp / 64 = a by omega] at q
      rw [← hv1] at q
      exact q
    have hne : (((v1 : Nat) : Int) != (b : Int)) = true := by rw [bne_iff_ne]; omega
    clear hv1
    clear hcp
    go_enter Try.func6, Try.ntmps6
    go_wp2_with (go_at_call 7; (with_reducible refine (HE.out _ _ (by have := HCP.out; omega)).mono ?_); rintro _ wa ⟨rfl, hwa⟩)
    refine wp_loop_rounds 3 ?_
    rw [rounds_succ]
    go_wp2
    go_quiet (fail)
    go_wp2
    rw [rounds_succ]
    go_wp2
    go_quiet (fail)
    go_wp2
    go_ret2
    refine ⟨rfl, ?_⟩
    (repeat refine below_drewN ?_ _); first | exact below_end1 _ hwa | exact below_end2 _ _ hwa
  rw [if_pos (by omega)]
  have HE : Hid (∀ (v : Int) (W : World), v = cp → Calls Try.prog 7 #[.int .u32 v] W (EncTo a b 0 0 2 W)) := fun v W hv => by
    have q := enc2 v cp hv (by omega) bcp W
    rw [show 192 + cp / 64 = a by omega] at q
    rw [show 128 + cp % 64 = b by omega] at q
    exact q
  clear hcp
  go_enter Try.func6, Try.ntmps6
  go_wp2_with (go_at_call 7; (with_reducible refine (HE.out _ _ (by have := HCP.out; omega)).mono ?_); rintro _ wa ⟨rfl, hwa⟩)
  refine wp_loop_rounds 3 ?_
  rw [rounds_succ]
  go_wp2
  go_quiet (fail)
  go_wp2
  rw [rounds_succ]
  go_wp2
  go_quiet (fail)
  go_wp2
  rw [rounds_succ]
  go_wp2
  go_ret2
  refine ⟨?_, by (repeat refine below_drewN ?_ _); first | exact below_end1 _ hwa | exact below_end2 _ _ hwa⟩
  have := HCP.out
  show Ending.returned (.tuple #[.int .i32 _, .int .i64 _]) = _
  congr 5
  show _ = (cp : Int)
  omega
set_option maxRecDepth 100000 in
set_option maxHeartbeats 8000000 in
theorem mod3 (s : ByteArray) (a b c cp : Nat) (hcp : cp = (a - 224) * 4096 + b % 64 * 64 + c % 64) (hs : s.size ≤ 4194304) (hn : 3 ≤ s.size) (e0 : (s[0]'(by omega)).toNat = a) (e1 : (s[1]'(by omega)).toNat = b) (e2 : (s[2]'(by omega)).toNat = c) (ha : 224 ≤ a) (ha2 : a < 240) (hb : b < 256) (hc : c < 256) (w : World) :
    Calls Try.prog 6 #[.string s] w (GivesB (if b / 64 = 2 ∧ c / 64 = 2 ∧ 2048 ≤ cp then (cp, 3) else (65533, 1)) w) := by
  have bcp : cp ≤ 65535 := by omega
  have hz : ((s.size : Int) == 0) = false := by rw [beq_eq_false_iff_ne]; omega
  have HCP := Lib.hid hcp
  by_cases hlow : cp < 2048
  · rw [if_neg (by omega)]
    clear hcp
    by_cases h1 : cp < 128
    · go_enter Try.func6, Try.ntmps6
      go_wp2
      go_quiet (fail)
      go_wp2_with (go_at_call 7; (with_reducible refine (enc1 _ cp (by have := HCP.out; omega) h1 _).mono ?_); rintro _ wa ⟨rfl, hwa⟩)
      go_ret2
      first | exact ⟨rfl, below_end0 _ _ hwa⟩ | exact ⟨rfl, below_end _ _ _ hwa⟩ | exact ⟨rfl, below_end1 _ hwa⟩ | exact ⟨rfl, below_end2 _ _ hwa⟩
    · go_enter Try.func6, Try.ntmps6
      go_wp2
      go_quiet (fail)
      go_wp2_with (go_at_call 7; (with_reducible refine (enc2 _ cp (by have := HCP.out; omega) (by omega) hlow _).mono ?_); rintro _ wa ⟨rfl, hwa⟩)
      go_ret2
      first | exact ⟨rfl, below_end0 _ _ hwa⟩ | exact ⟨rfl, below_end _ _ _ hwa⟩ | exact ⟨rfl, below_end1 _ hwa⟩ | exact ⟨rfl, below_end2 _ _ hwa⟩
  by_cases nb1 : ¬ b / 64 = 2
  · rw [if_neg (by omega)]
    obtain ⟨v1, hv1⟩ : ∃ v, v = 128 + cp / 64 % 64 := ⟨_, rfl⟩
    obtain ⟨v2, hv2⟩ : ∃ v, v = 128 + cp % 64 := ⟨_, rfl⟩
    have HE : Hid (∀ (v : Int) (W : World), v = cp → Calls Try.prog 7 #[.int .u32 v] W (EncTo a v1 v2 0 3 W)) := fun v W hv => by
      have q := enc3 v cp hv (by omega) bcp W
      rw [show 224 + cp / 4096 = a by omega] at q
      rw [← hv1] at q
      rw [← hv2] at q
      exact q
    have hne : (((v1 : Nat) : Int) != (b : Int)) = true := by rw [bne_iff_ne]; omega
    clear hv1 hv2
    clear hcp
    go_enter Try.func6, Try.ntmps6
    go_wp2
    go_quiet (fail)
    go_wp2_with (go_at_call 7; (with_reducible refine (HE.out _ _ (by have := HCP.out; omega)).mono ?_); rintro _ wa ⟨rfl, hwa⟩)
    refine wp_loop_rounds 4 ?_
    rw [rounds_succ]
    go_wp2
    go_quiet (fail)
    go_wp2
    rw [rounds_succ]
    go_wp2
    go_quiet (fail)
    go_wp2
    go_ret2
    refine ⟨rfl, ?_⟩
    (repeat refine below_drewN ?_ _); first | exact below_end1 _ hwa | exact below_end2 _ _ hwa
  by_cases nb2 : ¬ c / 64 = 2
  · rw [if_neg (by omega)]
    obtain ⟨v2, hv2⟩ : ∃ v, v = 128 + cp % 64 := ⟨_, rfl⟩
    have HE : Hid (∀ (v : Int) (W : World), v = cp → Calls Try.prog 7 #[.int .u32 v] W (EncTo a b v2 0 3 W)) := fun v W hv => by
      have q := enc3 v cp hv (by omega) bcp W
      rw [show 224 + cp / 4096 = a by omega] at q
      rw [show 128 + cp / 64 % 64 = b by omega] at q
      rw [← hv2] at q
      exact q
    have hne : (((v2 : Nat) : Int) != (c : Int)) = true := by rw [bne_iff_ne]; omega
    clear hv2
    clear hcp
    go_enter Try.func6, Try.ntmps6
    go_wp2
    go_quiet (fail)
    go_wp2_with (go_at_call 7; (with_reducible refine (HE.out _ _ (by have := HCP.out; omega)).mono ?_); rintro _ wa ⟨rfl, hwa⟩)
    refine wp_loop_rounds 4 ?_
    rw [rounds_succ]
    go_wp2
    go_quiet (fail)
    go_wp2
    rw [rounds_succ]
    go_wp2
    go_quiet (fail)
    go_wp2
    rw [rounds_succ]
    go_wp2
    go_quiet (fail)
    go_wp2
    go_ret2
    refine ⟨rfl, ?_⟩
    (repeat refine below_drewN ?_ _); first | exact below_end1 _ hwa | exact below_end2 _ _ hwa
  rw [if_pos (by omega)]
  have HE : Hid (∀ (v : Int) (W : World), v = cp → Calls Try.prog 7 #[.int .u32 v] W (EncTo a b c 0 3 W)) := fun v W hv => by
    have q := enc3 v cp hv (by omega) bcp W
    rw [show 224 + cp / 4096 = a by omega] at q
    rw [show 128 + cp / 64 % 64 = b by omega] at q
    rw [show 128 + cp % 64 = c by omega] at q
    exact q
  clear hcp
  go_enter Try.func6, Try.ntmps6
  go_wp2
  go_quiet (fail)
  go_wp2_with (go_at_call 7; (with_reducible refine (HE.out _ _ (by have := HCP.out; omega)).mono ?_); rintro _ wa ⟨rfl, hwa⟩)
  refine wp_loop_rounds 4 ?_
  rw [rounds_succ]
  go_wp2
  go_quiet (fail)
  go_wp2
  rw [rounds_succ]
  go_wp2
  go_quiet (fail)
  go_wp2
  rw [rounds_succ]
  go_wp2
  go_quiet (fail)
  go_wp2
  rw [rounds_succ]
  go_wp2
  go_ret2
  refine ⟨?_, by (repeat refine below_drewN ?_ _); first | exact below_end1 _ hwa | exact below_end2 _ _ hwa⟩
  have := HCP.out
  show Ending.returned (.tuple #[.int .i32 _, .int .i64 _]) = _
  congr 5
  show _ = (cp : Int)
  omega
set_option maxRecDepth 100000 in
set_option maxHeartbeats 8000000 in
theorem mod4 (s : ByteArray) (a b c d cp : Nat) (hcp : cp = (a - 240) * 262144 + b % 64 * 4096 + c % 64 * 64 + d % 64) (hs : s.size ≤ 4194304) (hn : 4 ≤ s.size) (e0 : (s[0]'(by omega)).toNat = a) (e1 : (s[1]'(by omega)).toNat = b) (e2 : (s[2]'(by omega)).toNat = c) (e3 : (s[3]'(by omega)).toNat = d) (ha : 240 ≤ a) (ha2 : a < 248) (hb : b < 256) (hc : c < 256) (hd : d < 256) (w : World) :
    Calls Try.prog 6 #[.string s] w (GivesB (if b / 64 = 2 ∧ c / 64 = 2 ∧ d / 64 = 2 ∧ 65536 ≤ cp ∧ cp ≤ 1114111 then (cp, 4) else (65533, 1)) w) := by
  have bcp : cp ≤ 2097151 := by omega
  have hz : ((s.size : Int) == 0) = false := by rw [beq_eq_false_iff_ne]; omega
  have HCP := Lib.hid hcp
  by_cases hlow : cp < 65536
  · rw [if_neg (by omega)]
    clear hcp
    by_cases h1 : cp < 128
    · go_enter Try.func6, Try.ntmps6
      go_wp2
      go_quiet (fail)
      go_wp2_with (go_at_call 7; (with_reducible refine (enc1 _ cp (by have := HCP.out; omega) h1 _).mono ?_); rintro _ wa ⟨rfl, hwa⟩)
      go_ret2
      first | exact ⟨rfl, below_end0 _ _ hwa⟩ | exact ⟨rfl, below_end _ _ _ hwa⟩ | exact ⟨rfl, below_end1 _ hwa⟩ | exact ⟨rfl, below_end2 _ _ hwa⟩
    by_cases h2 : cp < 2048
    · go_enter Try.func6, Try.ntmps6
      go_wp2
      go_quiet (fail)
      go_wp2_with (go_at_call 7; (with_reducible refine (enc2 _ cp (by have := HCP.out; omega) (by omega) h2 _).mono ?_); rintro _ wa ⟨rfl, hwa⟩)
      go_ret2
      first | exact ⟨rfl, below_end0 _ _ hwa⟩ | exact ⟨rfl, below_end _ _ _ hwa⟩ | exact ⟨rfl, below_end1 _ hwa⟩ | exact ⟨rfl, below_end2 _ _ hwa⟩
    · go_enter Try.func6, Try.ntmps6
      go_wp2
      go_quiet (fail)
      go_wp2_with (go_at_call 7; (with_reducible refine (enc3 _ cp (by have := HCP.out; omega) (by omega) (by omega) _).mono ?_); rintro _ wa ⟨rfl, hwa⟩)
      go_ret2
      first | exact ⟨rfl, below_end0 _ _ hwa⟩ | exact ⟨rfl, below_end _ _ _ hwa⟩ | exact ⟨rfl, below_end1 _ hwa⟩ | exact ⟨rfl, below_end2 _ _ hwa⟩
  by_cases hhigh : 1114111 < cp
  · rw [if_neg (by omega)]
    clear hcp
    go_enter Try.func6, Try.ntmps6
    go_wp2
    go_quiet (fail)
    go_wp2_with (go_at_call 7; (with_reducible refine (encX _ cp (by have := HCP.out; omega) hhigh (by omega) _).mono ?_); rintro _ wa ⟨rfl, hwa⟩)
    go_ret2
    first | exact ⟨rfl, below_end0 _ _ hwa⟩ | exact ⟨rfl, below_end _ _ _ hwa⟩ | exact ⟨rfl, below_end1 _ hwa⟩ | exact ⟨rfl, below_end2 _ _ hwa⟩
  by_cases nb1 : ¬ b / 64 = 2
  · rw [if_neg (by omega)]
    obtain ⟨v1, hv1⟩ : ∃ v, v = 128 + cp / 4096 % 64 := ⟨_, rfl⟩
    obtain ⟨v2, hv2⟩ : ∃ v, v = 128 + cp / 64 % 64 := ⟨_, rfl⟩
    obtain ⟨v3, hv3⟩ : ∃ v, v = 128 + cp % 64 := ⟨_, rfl⟩
    have HE : Hid (∀ (v : Int) (W : World), v = cp → Calls Try.prog 7 #[.int .u32 v] W (EncTo a v1 v2 v3 4 W)) := fun v W hv => by
      have q := enc4 v cp hv (by omega) (by omega) W
      rw [show 240 + cp / 262144 = a by omega] at q
      rw [← hv1] at q
      rw [← hv2] at q
      rw [← hv3] at q
      exact q
    have hne : (((v1 : Nat) : Int) != (b : Int)) = true := by rw [bne_iff_ne]; omega
    clear hv1 hv2 hv3
    clear hcp
    go_enter Try.func6, Try.ntmps6
    go_wp2
    go_quiet (fail)
    go_wp2_with (go_at_call 7; (with_reducible refine (HE.out _ _ (by have := HCP.out; omega)).mono ?_); rintro _ wa ⟨rfl, hwa⟩)
    refine wp_loop_rounds 5 ?_
    rw [rounds_succ]
    go_wp2
    go_quiet (fail)
    go_wp2
    rw [rounds_succ]
    go_wp2
    go_quiet (fail)
    go_wp2
    go_ret2
    refine ⟨rfl, ?_⟩
    (repeat refine below_drewN ?_ _); first | exact below_end1 _ hwa | exact below_end2 _ _ hwa
  by_cases nb2 : ¬ c / 64 = 2
  · rw [if_neg (by omega)]
    obtain ⟨v2, hv2⟩ : ∃ v, v = 128 + cp / 64 % 64 := ⟨_, rfl⟩
    obtain ⟨v3, hv3⟩ : ∃ v, v = 128 + cp % 64 := ⟨_, rfl⟩
    have HE : Hid (∀ (v : Int) (W : World), v = cp → Calls Try.prog 7 #[.int .u32 v] W (EncTo a b v2 v3 4 W)) := fun v W hv => by
      have q := enc4 v cp hv (by omega) (by omega) W
      rw [show 240 + cp / 262144 = a by omega] at q
      rw [show 128 + cp / 4096 % 64 = b by omega] at q
      rw [← hv2] at q
      rw [← hv3] at q
      exact q
    have hne : (((v2 : Nat) : Int) != (c : Int)) = true := by rw [bne_iff_ne]; omega
    clear hv2 hv3
    clear hcp
    go_enter Try.func6, Try.ntmps6
    go_wp2
    go_quiet (fail)
    go_wp2_with (go_at_call 7; (with_reducible refine (HE.out _ _ (by have := HCP.out; omega)).mono ?_); rintro _ wa ⟨rfl, hwa⟩)
    refine wp_loop_rounds 5 ?_
    rw [rounds_succ]
    go_wp2
    go_quiet (fail)
    go_wp2
    rw [rounds_succ]
    go_wp2
    go_quiet (fail)
    go_wp2
    rw [rounds_succ]
    go_wp2
    go_quiet (fail)
    go_wp2
    go_ret2
    refine ⟨rfl, ?_⟩
    (repeat refine below_drewN ?_ _); first | exact below_end1 _ hwa | exact below_end2 _ _ hwa
  by_cases nb3 : ¬ d / 64 = 2
  · rw [if_neg (by omega)]
    obtain ⟨v3, hv3⟩ : ∃ v, v = 128 + cp % 64 := ⟨_, rfl⟩
    have HE : Hid (∀ (v : Int) (W : World), v = cp → Calls Try.prog 7 #[.int .u32 v] W (EncTo a b c v3 4 W)) := fun v W hv => by
      have q := enc4 v cp hv (by omega) (by omega) W
      rw [show 240 + cp / 262144 = a by omega] at q
      rw [show 128 + cp / 4096 % 64 = b by omega] at q
      rw [show 128 + cp / 64 % 64 = c by omega] at q
      rw [← hv3] at q
      exact q
    have hne : (((v3 : Nat) : Int) != (d : Int)) = true := by rw [bne_iff_ne]; omega
    clear hv3
    clear hcp
    go_enter Try.func6, Try.ntmps6
    go_wp2
    go_quiet (fail)
    go_wp2_with (go_at_call 7; (with_reducible refine (HE.out _ _ (by have := HCP.out; omega)).mono ?_); rintro _ wa ⟨rfl, hwa⟩)
    refine wp_loop_rounds 5 ?_
    rw [rounds_succ]
    go_wp2
    go_quiet (fail)
    go_wp2
    rw [rounds_succ]
    go_wp2
    go_quiet (fail)
    go_wp2
    rw [rounds_succ]
    go_wp2
    go_quiet (fail)
    go_wp2
    rw [rounds_succ]
    go_wp2
    go_quiet (fail)
    go_wp2
    go_ret2
    refine ⟨rfl, ?_⟩
    (repeat refine below_drewN ?_ _); first | exact below_end1 _ hwa | exact below_end2 _ _ hwa
  rw [if_pos (by omega)]
  have HE : Hid (∀ (v : Int) (W : World), v = cp → Calls Try.prog 7 #[.int .u32 v] W (EncTo a b c d 4 W)) := fun v W hv => by
    have q := enc4 v cp hv (by omega) (by omega) W
    rw [show 240 + cp / 262144 = a by omega] at q
    rw [show 128 + cp / 4096 % 64 = b by omega] at q
    rw [show 128 + cp / 64 % 64 = c by omega] at q
    rw [show 128 + cp % 64 = d by omega] at q
    exact q
  clear hcp
  go_enter Try.func6, Try.ntmps6
  go_wp2
  go_quiet (fail)
  go_wp2_with (go_at_call 7; (with_reducible refine (HE.out _ _ (by have := HCP.out; omega)).mono ?_); rintro _ wa ⟨rfl, hwa⟩)
  refine wp_loop_rounds 5 ?_
  rw [rounds_succ]
  go_wp2
  go_quiet (fail)
  go_wp2
  rw [rounds_succ]
  go_wp2
  go_quiet (fail)
  go_wp2
  rw [rounds_succ]
  go_wp2
  go_quiet (fail)
  go_wp2
  rw [rounds_succ]
  go_wp2
  go_quiet (fail)
  go_wp2
  rw [rounds_succ]
  go_wp2
  go_ret2
  refine ⟨?_, by (repeat refine below_drewN ?_ _); first | exact below_end1 _ hwa | exact below_end2 _ _ hwa⟩
  have := HCP.out
  show Ending.returned (.tuple #[.int .i32 _, .int .i64 _]) = _
  congr 5
  show _ = (cp : Int)
  omega
end Go.Proofs.Ytihcflebpgefbaa
