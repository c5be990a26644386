/-
  Four hexadecimal digits read back; a code point appended. No condition.
-/
import Derived.Test.YtocnfapldcjilaaJs
namespace Go.Proofs.Ytocnfapldcjilaa
open Go.ChangeShapes Go.WideShapes Go.ChangeAt Go.RowKit
set_option linter.unusedVariables false

def jq : Value → Int | .int _ q => q | _ => 0
theorem pInfo {o : Option TypeInfo} {z : Option Value} {s b : Nat} (h : o.map (fun i => (i.zero, i.size, i.bytes)) = some (z, s, b)) : ∃ i, o = some i ∧ i.zero = z ∧ i.size = s ∧ i.bytes = b := by
  cases o with
  | none => cases h
  | some i => simp only [Option.map_some, Option.some.injEq, Prod.mk.injEq] at h; exact ⟨i, rfl, h.1, h.2.1, h.2.2⟩
theorem info5 : (Try.prog.info? 5).map (fun i => (i.zero, i.size, i.bytes)) = some (some (Value.int .u8 0), 1, 1) := by kernel_rfl
/-- The cells that were just laid. -/
theorem newsAt (W : World) (cs : Array Value) (ns : List Nat) (h : ∀ x ∈ ns, x < 256) (hc : cs.toList = ns.map (fun n : Nat => Value.int .u8 (n : Int))) :
    ∀ j u, (Lib.byteCells (by8 ns))[j]? = some u → (W.alloc (.cells cs 5)).cell? ((⟨W.heap.size, 0, none⟩ : Addr).add j) = some u := by
  intro j u hj
  have hadd : (⟨W.heap.size, 0, none⟩ : Addr).add j = ⟨W.heap.size, j, none⟩ := by unfold Addr.add; split <;> simp_all
  rw [hadd, World.cell?_alloc_new, ← Array.getElem?_toList, hc]
  have e : Lib.byteCells (by8 ns) = ns.map (fun n : Nat => Value.int .u8 (n : Int)) := by
    simp only [Lib.byteCells, by8, List.map_map]
    refine List.map_congr_left fun x hx => ?_
    have := h x hx
    simp only [Function.comp, UInt8.toNat_ofNat']
    rw [Nat.mod_eq_of_lt (by omega)]
  rw [← e]; exact hj
set_option maxRecDepth 100000 in
set_option maxHeartbeats 4000000 in
theorem read26 (g n cap at' en u : Nat) (w : World) (hu : u < 65536) (hen : at' + 4 ≤ en) (hn : en ≤ n) (hb : n ≤ 140737488355328)
    (hc : ∀ k, k < 4 → w.cell? ⟨g, at' + k, none⟩ = some (.int .u8 ((hexU (u / 16 ^ (3 - k) % 16) : Nat) : Int))) :
    Calls Try.prog 26 #[.slice (some ⟨g, 0, none⟩) n cap, .int .i64 at', .int .i64 en] w fun e w' => e = .returned (.tuple #[.int .i32 (u : Int), .bool true]) ∧ w = w' := by
  have HC := Lib.hid hc
  clear hc
  go_enter Try.func26, Try.ntmps26
  go_wp2_with fail
  go_loop [8, 9] (fun v k => ∃ j : Nat, j ≤ 4 ∧ k = .int .i64 j ∧ v = .int .i32 ((u / 16 ^ (4 - j) : Nat) : Int)) (fun _ k => 4 - (jq k).toNat)
  case atStart => exact ⟨0, by omega, rfl, by rw [show u / 16 ^ (4 - 0) = 0 by omega]; rfl⟩
  case round =>
    obtain ⟨j, hj, rfl, rfl⟩ := hrel
    by_cases h4 : j < 4
    · have hcj := HC.out j h4
      obtain ⟨d, hd⟩ : ∃ d, d = u / 16 ^ (3 - j) % 16 := ⟨_, rfl⟩
      obtain ⟨x, hx⟩ : ∃ x, x = u / 16 ^ (4 - j) := ⟨_, rfl⟩
      have hnx : u / 16 ^ (4 - (j + 1)) = x * 16 + d ∧ x < 4096 ∧ d < 16 := by
        rcases (show j = 0 ∨ j = 1 ∨ j = 2 ∨ j = 3 by omega) with rfl | rfl | rfl | rfl <;> omega
      obtain ⟨hn1, hx2, hd2⟩ := hnx
      have HN := Lib.hid hn1
      rw [← hd] at hcj
      rw [← hx]
      clear hd hx hn1
      have H33 := fun W => Lib.hid (hex33 d hd2 W)
      generalize hexU d = y at *
      go_wp2_with (go_at_call 33; (with_reducible refine (H33 _).out.mono ?_); rintro _ _ ⟨rfl, rfl⟩)
      go_round
      case rel => exact ⟨j + 1, by omega, by go_num, by rw [HN.out]; simp⟩
      case measure => simp [jq]; omega
    · have : j = 4 := by omega
      subst this
      go_wp2_with fail
      go_ret2
      exact ⟨by simp, rfl⟩
theorem shr32 (c k : Nat) : (c : Int) / ((2 ^ k : Nat) : Int) = ((c / 2 ^ k : Nat) : Int) := by simp
set_option maxRecDepth 10000000 in
set_option maxHeartbeats 4000000 in
theorem app27 (Bb : Nat) (v : Value) (l : List UInt8) (c : Nat) (w : World) (h : OwnB Bb 5 v l w) (hc : c ≤ 1114111) (hl : l.length + 4 ≤ 140737488355328) (hB : Bb ≤ w.heap.size) :
    Calls Try.prog 27 #[v, .int .i32 (c : Int)] w fun e w' => ∃ v', e = .returned v' ∧ OwnB Bb 5 v' (l ++ by8 (encN c)) w' ∧ Below Bb w w' := by
  obtain ⟨i0, hi, hz0, hz1, hz2⟩ := pInfo info5
  have HI := Lib.hid hi
  have HZ0 := Lib.hid hz0
  have HZ1 := Lib.hid hz1
  have HZ2 := Lib.hid hz2
  have HO := Lib.hid h
  obtain ⟨p, cap, hv⟩ := h.form
  clear hi hz0 hz1 hz2 h
  have HV := Lib.hid hv
  clear hv
  by_cases h1 : c < 128
  · have he : encN c = [c] := by unfold encN; rw [if_pos h1]
    rw [he]
    clear he
    go_enter Try.func27, Try.ntmps27
    go_wp2_with (refine wpList_append_ownB rfl _ _ 23 rfl Bb 5 i0 Try.underlying23 HI.out HZ0.out HZ1.out HZ2.out v l rfl (HO.out.alloc _) ⟨w.heap.size, 0, none⟩ 1 1 (by8 [c]) rfl rfl (newsAt w _ [c] (by simp; omega) (by simp)) (by omega) (by simp; omega) ?_; intro v2 w3 hown3 hg3; have HO3 := Lib.hid hown3; have HW3 := Lib.hid (below_grown ((Below.refl Bb w).alloc hB _) (by simp; omega) (HO.out.alloc _) hg3); clear hown3 hg3)
    go_ret
    exact ⟨v2, rfl, HO3.out, HW3.out⟩
  by_cases h2 : c < 2048
  · have he : encN c = [192 + c / 64, 128 + c % 64] := by unfold encN; rw [if_neg h1, if_pos h2]
    rw [he]
    clear he
    obtain ⟨x, hx⟩ : ∃ x, x = c / 64 := ⟨_, rfl⟩
    obtain ⟨y, hy⟩ : ∃ y, y = c % 64 := ⟨_, rfl⟩
    have e1 : (c : Int) / 64 = (x : Int) := by omega
    have e2 : bits .and .i32 (c : Int) 63 = (y : Int) := by rw [hy]; exact m_lo32 c 6 63 (by decide) (by omega) (by decide)
    have e3 : bits .or .i32 192 (x : Int) = ((192 + x : Nat) : Int) := o_add 6 x 5 (by omega) (by omega)
    have e4 : bits .or .i32 128 (y : Int) = ((128 + y : Nat) : Int) := o_add 2 y 6 (by omega) (by omega)
    rw [← hx, ← hy]
    have b1 : x < 32 := by omega
    have b2 : y < 64 := by omega
    clear hx hy
    go_enter Try.func27, Try.ntmps27
    go_wp2_with (refine wpList_append_ownB rfl _ _ 23 rfl Bb 5 i0 Try.underlying23 HI.out HZ0.out HZ1.out HZ2.out v l rfl (HO.out.alloc _) ⟨w.heap.size, 0, none⟩ 2 2 (by8 [192 + x, 128 + y]) rfl rfl (newsAt w _ [192 + x, 128 + y] (by simp; omega) (by simp)) (by omega) (by simp; omega) ?_; intro v2 w3 hown3 hg3; have HO3 := Lib.hid hown3; have HW3 := Lib.hid (below_grown ((Below.refl Bb w).alloc hB _) (by simp; omega) (HO.out.alloc _) hg3); clear hown3 hg3)
    go_ret
    exact ⟨v2, rfl, HO3.out, HW3.out⟩
  by_cases h3 : c < 65536
  · have he : encN c = [224 + c / 4096, 128 + c / 64 % 64, 128 + c % 64] := by unfold encN; rw [if_neg h1, if_neg h2, if_pos h3]
    rw [he]
    clear he
    obtain ⟨x, hx⟩ : ∃ x, x = c / 4096 := ⟨_, rfl⟩
    obtain ⟨z, hz⟩ : ∃ z, z = c / 64 := ⟨_, rfl⟩
    obtain ⟨y, hy⟩ : ∃ y, y = c % 64 := ⟨_, rfl⟩
    have e1 : (c : Int) / 4096 = (x : Int) := by omega
    have e5 : (c : Int) / 64 = (z : Int) := by omega
    obtain ⟨t, ht⟩ : ∃ t, t = z % 64 := ⟨_, rfl⟩
    have e2 : bits .and .i32 (c : Int) 63 = (y : Int) := by rw [hy]; exact m_lo32 c 6 63 (by decide) (by omega) (by decide)
    have e6 : bits .and .i32 (z : Int) 63 = (t : Int) := by rw [ht]; exact m_lo32 z 6 63 (by decide) (by omega) (by decide)
    have e3 : bits .or .i32 224 (x : Int) = ((224 + x : Nat) : Int) := o_add 14 x 4 (by omega) (by omega)
    have e4 : bits .or .i32 128 (y : Int) = ((128 + y : Nat) : Int) := o_add 2 y 6 (by omega) (by omega)
    have e7 : bits .or .i32 128 (t : Int) = ((128 + t : Nat) : Int) := o_add 2 t 6 (by omega) (by omega)
    rw [← hx, ← hz, ← hy, ← ht]
    have b1 : x < 16 := by omega
    have b2 : y < 64 := by omega
    have b3 : t < 64 := by omega
    have b4 : z < 1024 := by omega
    clear hx hy hz ht
    go_enter Try.func27, Try.ntmps27
    go_wp2_with (refine wpList_append_ownB rfl _ _ 23 rfl Bb 5 i0 Try.underlying23 HI.out HZ0.out HZ1.out HZ2.out v l rfl (HO.out.alloc _) ⟨w.heap.size, 0, none⟩ 3 3 (by8 [224 + x, 128 + t, 128 + y]) rfl rfl (newsAt w _ [224 + x, 128 + t, 128 + y] (by simp; omega) (by simp)) (by omega) (by simp; omega) ?_; intro v2 w3 hown3 hg3; have HO3 := Lib.hid hown3; have HW3 := Lib.hid (below_grown ((Below.refl Bb w).alloc hB _) (by simp; omega) (HO.out.alloc _) hg3); clear hown3 hg3)
    go_ret
    exact ⟨v2, rfl, HO3.out, HW3.out⟩
  · have he : encN c = [240 + c / 262144, 128 + c / 4096 % 64, 128 + c / 64 % 64, 128 + c % 64] := by unfold encN; rw [if_neg h1, if_neg h2, if_neg h3]
    rw [he]
    clear he
    obtain ⟨x, hx⟩ : ∃ x, x = c / 262144 := ⟨_, rfl⟩
    obtain ⟨p1, hp⟩ : ∃ z, z = c / 4096 := ⟨_, rfl⟩
    obtain ⟨z, hz⟩ : ∃ z, z = c / 64 := ⟨_, rfl⟩
    obtain ⟨y, hy⟩ : ∃ y, y = c % 64 := ⟨_, rfl⟩
    have e1 : (c : Int) / 262144 = (x : Int) := by omega
    have e5 : (c : Int) / 64 = (z : Int) := by omega
    have e8 : (c : Int) / 4096 = (p1 : Int) := by omega
    obtain ⟨t, ht⟩ : ∃ t, t = z % 64 := ⟨_, rfl⟩
    obtain ⟨q, hq⟩ : ∃ t, t = p1 % 64 := ⟨_, rfl⟩
    have e2 : bits .and .i32 (c : Int) 63 = (y : Int) := by rw [hy]; exact m_lo32 c 6 63 (by decide) (by omega) (by decide)
    have e6 : bits .and .i32 (z : Int) 63 = (t : Int) := by rw [ht]; exact m_lo32 z 6 63 (by decide) (by omega) (by decide)
    have e9 : bits .and .i32 (p1 : Int) 63 = (q : Int) := by rw [hq]; exact m_lo32 p1 6 63 (by decide) (by omega) (by decide)
    have e3 : bits .or .i32 240 (x : Int) = ((240 + x : Nat) : Int) := o_add 30 x 3 (by omega) (by omega)
    have e4 : bits .or .i32 128 (y : Int) = ((128 + y : Nat) : Int) := o_add 2 y 6 (by omega) (by omega)
    have e7 : bits .or .i32 128 (t : Int) = ((128 + t : Nat) : Int) := o_add 2 t 6 (by omega) (by omega)
    have e0 : bits .or .i32 128 (q : Int) = ((128 + q : Nat) : Int) := o_add 2 q 6 (by omega) (by omega)
    rw [← hx, ← hp, ← hz, ← hy, ← ht, ← hq]
    have b1 : x < 8 := by omega
    have b2 : y < 64 := by omega
    have b3 : t < 64 := by omega
    have b5 : q < 64 := by omega
    clear hx hy hz ht hp hq
    go_enter Try.func27, Try.ntmps27
    go_wp2_with (refine wpList_append_ownB rfl _ _ 23 rfl Bb 5 i0 Try.underlying23 HI.out HZ0.out HZ1.out HZ2.out v l rfl (HO.out.alloc _) ⟨w.heap.size, 0, none⟩ 4 4 (by8 [240 + x, 128 + q, 128 + t, 128 + y]) rfl rfl (newsAt w _ [240 + x, 128 + q, 128 + t, 128 + y] (by simp; omega) (by simp)) (by omega) (by simp; omega) ?_; intro v2 w3 hown3 hg3; have HO3 := Lib.hid hown3; have HW3 := Lib.hid (below_grown ((Below.refl Bb w).alloc hB _) (by simp; omega) (HO.out.alloc _) hg3); clear hown3 hg3)
    go_ret
    exact ⟨v2, rfl, HO3.out, HW3.out⟩
end Go.Proofs.Ytocnfapldcjilaa
