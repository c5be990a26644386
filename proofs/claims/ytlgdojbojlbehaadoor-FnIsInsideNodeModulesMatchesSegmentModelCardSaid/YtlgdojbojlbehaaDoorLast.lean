/-
  Contracts of strings.IndexRune and strings.LastIndexAny at the two separators. No condition.
-/
import Derived.Test.YtlgdojbojlbehaaDoorOwn
import Derived.Test.YtlgdojbojlbehaaDoorShelf
import Derived.Test.YtlgdojbojlbehaaDoorSegs
import Derived.WalkSmall
import Derived.WalkMore
import Derived.LoopN
import Derived.Deep.QuietTactic
import Derived.BigQuiet
import Derived.Deep.WholeRow
import Derived.Laws.RangeAny
import Derived.Lib.OthersKept
namespace Go.Proofs.YtlgdojbojlbehaaDoor
open Go.ChangeShapes Go.WideShapes Go.ChangeAt Go.RowKit
set_option linter.unusedVariables false

theorem quiet_add_same {P : Program} {f : FuncId} {args : Array Value} {w : World} {a n : Nat} {v : Value}
    (h : Calls P f args (w.drewN (a + n)) fun e w' => e = .returned v ∧ w' = w.drewN (a + n)) :
    Calls P f args (w.drewN (a + n)) fun e w'' => e = .returned v ∧ ∃ m, w'' = w.drewN (a + m) :=
  h.mono fun _ _ ⟨he, hm⟩ => ⟨he, n, hm⟩
def SL : ByteArray := ⟨#[47, 92]⟩
set_option maxRecDepth 100000 in
set_option maxHeartbeats 1000000 in
theorem idxLong (r : Int) (h0 : 128 ≤ r) (h1 : r ≤ 1114111) (hv : Lib.validRune r = true) (hne : (r == 65533) = false) (E : ByteArray) (hE : Utf8.encode r = E) (hn : 3 ≤ E.size) (hn2 : E.size ≤ 4) (w : World) :
    Calls Tryd.prog 8 #[.string ⟨#[47, 92]⟩, .int .i32 r] w fun e w' => e = .returned (.int .i64 (-1)) ∧ Below w.heap.size w w' := by
  have n0 : ¬ r < 128 := by omega
  have hv' := Lib.hid hv
  clear hv
  go_enter Tryd.func8, Tryd.ntmps8
  go_wp2_with (first | (go_at_call 14; (with_reducible refine (Tryd.utf8_ValidRune _ _).mono ?_); rintro _ w1 ⟨rfl, hw⟩; subst hw; rw [hv'.out]))
  go_step3
  go_wp2_with fail
  refine wp_loop_rounds 1 ?_
  rw [rounds_succ]
  go_wp2_with fail
  rw [Exit.noGoto_ret]
  go_ret
  exact ⟨rfl, Below.refl _ _⟩
set_option maxRecDepth 100000 in
set_option maxHeartbeats 1000000 in
theorem idxTwo (r : Int) (h0 : 128 ≤ r) (h1 : r ≤ 1114111) (hv : Lib.validRune r = true) (hne : (r == 65533) = false) (E : ByteArray) (hE : Utf8.encode r = E) (hn : E.size = 2) (y : UInt8) (hy : E[1]'(by omega) = y) (hy2 : 128 ≤ y.toNat) (w : World) :
    Calls Tryd.prog 8 #[.string ⟨#[47, 92]⟩, .int .i32 r] w fun e w' => e = .returned (.int .i64 (-1)) ∧ Below w.heap.size w w' := by
  have n0 : ¬ r < 128 := by omega
  have q1 : ((((⟨#[47, 92]⟩ : ByteArray)[1]'(by decide)).toNat : Int) != (y.toNat : Int)) = true := by
    have : ((⟨#[47, 92]⟩ : ByteArray)[1]'(by decide)).toNat = 92 := rfl
    rw [this]; simp; omega
  have hv' := Lib.hid hv
  clear hv
  go_enter Tryd.func8, Tryd.ntmps8
  go_wp2_with (first | (go_at_call 14; (with_reducible refine (Tryd.utf8_ValidRune _ _).mono ?_); rintro _ w1 ⟨rfl, hw⟩; subst hw; rw [hv'.out]))
  go_step3
  go_wp2_with fail
  refine wp_loop_rounds 1 ?_
  rw [rounds_succ]
  go_wp2_with fail
  go_step3
  go_wp2_with fail
  go_quiet (fail)
  go_wp2_with fail
  go_quiet ((go_at_call 13; exact quiet_add_same (Tryd.strings_IndexByte _ _ _)))
  go_wp2_with fail
  repeat (first | rw [Exit.noGoto_ret] | simp only [Exit.inBlock, Exit.then])
  go_ret
  exact ⟨rfl, below_drewN (Below.refl _ _) _⟩

theorem valid_of {r : Int} (h0 : 128 ≤ r) (h1 : r ≤ 1114111) (hv : Lib.validRune r = true) : Utf8.valid r = true := by
  unfold Lib.validRune at hv
  unfold Utf8.valid
  simp at hv ⊢
  omega
set_option maxRecDepth 100000 in
set_option maxHeartbeats 1000000 in
theorem idxBad (r : Int) (h0 : 128 ≤ r) (h1 : r ≤ 1114111) (hv : Lib.validRune r = false) (hne : (r == 65533) = false) (w : World) :
    Calls Tryd.prog 8 #[.string ⟨#[47, 92]⟩, .int .i32 r] w fun e w' => e = .returned (.int .i64 (-1)) ∧ Below w.heap.size w w' := by
  have n0 : ¬ r < 128 := by omega
  have hv' := Lib.hid hv
  clear hv
  go_enter Tryd.func8, Tryd.ntmps8
  go_wp2_with (first | (go_at_call 14; (with_reducible refine (Tryd.utf8_ValidRune _ _).mono ?_); rintro _ w1 ⟨rfl, hw⟩; subst hw; rw [hv'.out]))
  go_ret
  exact ⟨rfl, Below.refl _ _⟩
set_option maxRecDepth 100000 in
set_option maxHeartbeats 1000000 in
theorem idxErr (w : World) :
    Calls Tryd.prog 8 #[.string ⟨#[47, 92]⟩, .int .i32 65533] w fun e w' => e = .returned (.int .i64 (-1)) ∧ Below w.heap.size w w' := by
  have n0 : ∀ ty, (Instr.next (.pointer (some ⟨w.heap.size, 0, none⟩)) true ty).run Tryd.prog (w.iter ⟨#[47, 92]⟩ 0) = .ok (.tuple #[.bool true, .int .i64 0, .int .i32 47]) (w.iter ⟨#[47, 92]⟩ 1) := fun ty => run_next_any w ⟨#[47, 92]⟩ 0 ty (by decide)
  have n1 : ∀ ty, (Instr.next (.pointer (some ⟨w.heap.size, 0, none⟩)) true ty).run Tryd.prog (w.iter ⟨#[47, 92]⟩ 1) = .ok (.tuple #[.bool true, .int .i64 1, .int .i32 92]) (w.iter ⟨#[47, 92]⟩ 2) := fun ty => run_next_any w ⟨#[47, 92]⟩ 1 ty (by decide)
  have n2 : ∀ ty, (Instr.next (.pointer (some ⟨w.heap.size, 0, none⟩)) true ty).run Tryd.prog (w.iter ⟨#[47, 92]⟩ 2) = .ok (.tuple #[.bool false]) (w.iter ⟨#[47, 92]⟩ 2) := fun ty => Lib.run_next_end_at _ _ ⟨#[47, 92]⟩ 2 ty (World.iter_heap _ _ _) (by decide)
  go_enter Tryd.func8, Tryd.ntmps8
  go_wp2_with fail
  refine wp_loop_rounds 3 ?_
  rw [rounds_succ]
  go_wp2_with fail
  rw [rounds_succ]
  go_wp2_with fail
  rw [rounds_succ]
  go_wp2_with fail
  go_ret
  exact ⟨rfl, by unfold World.iter; exact (Below.refl _ _).alloc (Nat.le_refl _) _⟩

theorem ix_ascii : ∀ r : Fin 128, Lib.indexByte [47, 92] (r.val.toUInt8) = if r.val = 47 then 0 else if r.val = 92 then 1 else -1 := by decide
theorem idxMiss (r : Int) (h0 : 0 ≤ r) (h1 : r ≤ 1114111) (hn : r ≠ 47) (hn2 : r ≠ 92) (w : World) :
    Calls Tryd.prog 8 #[.string ⟨#[47, 92]⟩, .int .i32 r] w fun e w' => e = .returned (.int .i64 (-1)) ∧ Below w.heap.size w w' := by
  by_cases hl : r < 128
  · refine (Tryd.strings_IndexRune_ascii ⟨#[47, 92]⟩ r w h0 hl).mono ?_
    rintro e w' ⟨rfl, rfl⟩
    refine ⟨?_, Below.refl _ _⟩
    have := ix_ascii ⟨r.toNat, by omega⟩
    simp only at this
    rw [if_neg (by omega), if_neg (by omega)] at this
    show Ending.returned (.int .i64 (Lib.indexByte [47, 92] r.toNat.toUInt8)) = _
    rw [this]
  · by_cases he : r = 65533
    · subst he; exact idxErr w
    · have hne : (r == 65533) = false := by simpa using he
      cases hv : Lib.validRune r
      · exact idxBad r (by omega) h1 hv hne w
      · obtain ⟨f1, f2, f3⟩ := encode_facts r (valid_of (by omega) h1 hv) (by omega)
        by_cases h2 : (Utf8.encode r).size = 2
        · refine idxTwo r (by omega) h1 hv hne _ rfl h2 _ rfl ?_ w
          have := f3 (by omega)
          simp only [h2] at this
          exact this
        · exact idxLong r (by omega) h1 hv hne _ rfl (by omega) f2 w
theorem idxHit (c : UInt8) (h : sep c = true) (w : World) :
    Calls Tryd.prog 8 #[.string ⟨#[47, 92]⟩, .int .i32 c.toNat] w fun e w' => (∃ k : Int, e = .returned (.int .i64 k) ∧ 0 ≤ k) ∧ Below w.heap.size w w' := by
  have hc : c = 47 ∨ c = 92 := by unfold sep at h; simpa using h
  refine (Tryd.strings_IndexRune_ascii ⟨#[47, 92]⟩ c.toNat w (by omega) (by rcases hc with rfl | rfl <;> decide)).mono ?_
  rintro e w' ⟨rfl, rfl⟩
  refine ⟨⟨_, rfl, ?_⟩, Below.refl _ _⟩
  rcases hc with rfl | rfl <;> decide

theorem tl (x : ByteArray) : x.toList = x.data.toList := by rw [ByteArray.toList_eq]
theorem len_tl (x : ByteArray) : x.data.toList.length = x.size := rfl
theorem take_list (s : ByteArray) (k : Nat) : (s.extract 0 k).data.toList = s.data.toList.take k := by rw [Lib.extract_data]; simp
theorem take_size (s : ByteArray) (k : Nat) (h : k ≤ s.size) : (s.extract 0 k).size = k := by rw [← len_tl, take_list, List.length_take, len_tl]; omega
/-- The answer of strings.LastIndexAny. -/
def LA (l : List UInt8) (w : World) (e : Ending) (w' : World) : Prop := ∃ r : Int, e = .returned (.int .i64 r) ∧ LastSep l r ∧ Below w.heap.size w w'
/-- One step back. -/
structure Back (l : List UInt8) (k : Nat) (R K : Nat) : Prop where
  pos : 1 ≤ K
  le : K ≤ k
  top : R ≤ 1114111
  hit : sep (l.getD (k - 1) 0) = true → R = (l.getD (k - 1) 0).toNat ∧ K = 1
  miss : sep (l.getD (k - 1) 0) = false → R ≠ 47 ∧ R ≠ 92 ∧ (Clean (l.drop k) → Clean (l.drop (k - K)))
theorem clean_from {l : List UInt8} {a k : Nat} (hk : k ≤ l.length) (h : ∀ j (hj : j < l.length), a ≤ j → j < k → sep l[j] = false) (hc : Clean (l.drop k)) : Clean (l.drop a) := by
  intro c hm
  obtain ⟨i, hi, rfl⟩ := List.mem_iff_getElem.1 hm
  rw [List.length_drop] at hi
  rw [List.getElem_drop]
  by_cases q : a + i < k
  · exact h _ _ (by omega) q
  · refine hc _ (List.mem_iff_getElem.2 ⟨a + i - k, by rw [List.length_drop]; omega, ?_⟩)
    rw [List.getElem_drop]; congr 1; omega
theorem back (l : List UInt8) (k : Nat) (h1 : 1 ≤ k) (hk : k ≤ l.length) : Back l k (Lib.decodeLastL (l.take k)).1 (Lib.decodeLastL (l.take k)).2 := by
  have hlen : (l.take k).length = k := by simp; omega
  have hne : l.take k ≠ [] := fun e => by rw [e] at hlen; simp at hlen; omega
  have L := lastRune (l.take k) hne
  generalize Lib.decodeLastL (l.take k) = d at L
  obtain ⟨p1, p2, p3, p4⟩ := L
  rw [hlen] at p2 p3
  have hg : (l.take k).getD (k - 1) 0 = l.getD (k - 1) 0 := by simp [List.getD, show k - 1 < k by omega]
  rw [hg] at p3
  by_cases hlow : (l.getD (k - 1) 0).toNat < 128
  · have e := p3 hlow
    subst e
    refine ⟨p1, p2, by show (l.getD (k - 1) 0).toNat ≤ _; omega, fun _ => ⟨rfl, rfl⟩, fun hs => ⟨?_, ?_, ?_⟩⟩
    · intro q
      have : l.getD (k - 1) 0 = 47 := UInt8.toNat_inj.1 q
      rw [this] at hs; exact absurd hs (by decide)
    · intro q
      have : l.getD (k - 1) 0 = 92 := UInt8.toNat_inj.1 q
      rw [this] at hs; exact absurd hs (by decide)
    · refine clean_from hk fun j hj a b => ?_
      have : j = k - 1 := by simp at a; omega
      subst this
      rw [← hs]; simp [List.getD, hj]
  · obtain ⟨q1, q2, q3⟩ := p4 (by rw [hlen, hg]; omega)
    have hs := high_sep (c := l.getD (k - 1) 0) (by omega)
    refine ⟨p1, p2, q2, (fun h => by rw [hs] at h; cases h), (fun _ => ⟨by omega, by omega, ?_⟩)⟩
    refine clean_from hk fun j hj a b => ?_
    have := q3 j (by omega) (by omega)
    rw [List.getElem_take] at this
    exact high_sep this

set_option maxRecDepth 100000 in
set_option maxHeartbeats 2000000 in
theorem lastShort (s : ByteArray) (hs : s.size ≤ 8) (h1 : ((s.size : Int) == 1) = false) (w : World) (hT : Lib.Utf8Tabs 1 2 w) :
    Calls Tryd.prog 7 #[.string s, .string ⟨#[47, 92]⟩] w (LA s.data.toList w) := by
  have hll := len_tl s
  have HT := Lib.hid hT
  have HL := Lib.hid hll
  clear hT hll
  go_enter Tryd.func7, Tryd.ntmps7
  go_wp2_with (first
    | (go_at_call 9; (with_reducible refine (Tryd.strings_shouldUseASCIISet _ _).mono ?_); rintro _ w1 ⟨rfl, hw⟩; subst hw; rw [show decide ((8 : Int) < (s.size : Int)) = false from decide_eq_false (by omega)]))
  go_loopw [13] (fun i wr => ∃ k : Nat, k ≤ s.size ∧ i = .int .i64 k ∧ Clean (s.data.toList.drop k) ∧ Below w1.heap.size w1 wr) (fun i _ => (Lib.intOf i).toNat)
  case atStart => exact ⟨s.size, Nat.le_refl _, rfl, by rw [← HL.out, List.drop_length]; exact (fun c hc => by cases hc), Below.refl _ _⟩
  case round =>
    obtain ⟨k, hk, rfl, hc, hb⟩ := hrel
    have HC := Lib.hid hc
    have HB := Lib.hid hb
    clear hc hb
    by_cases h0 : 0 < k
    · have hx := take_size s k hk
      have hB := back s.data.toList k h0 (by rw [HL.out]; exact hk)
      have hD := Tryd.utf8_DecodeLastRuneInString (s.extract 0 k) wr (by rw [hx]; omega) (Utf8Tabs_below HT.out HB.out)
      rw [take_list] at hD
      generalize (Lib.decodeLastL (s.data.toList.take k)).1 = R at hB hD
      generalize (Lib.decodeLastL (s.data.toList.take k)).2 = K at hB hD
      obtain ⟨b1, b2, b3, b4, b5⟩ := hB
      have HD := Lib.hid hD
      have hgl : k - 1 < s.data.toList.length := by rw [HL.out]; omega
      have hgd : s.data.toList.getD (k - 1) 0 = s.data.toList[k - 1] := by rw [List.getD_eq_getElem?_getD, List.getElem?_eq_getElem hgl]; rfl
      clear hD hx
      cases hsep : sep (s.data.toList.getD (k - 1) 0) with
      | true =>
        obtain ⟨rfl, rfl⟩ := b4 hsep
        have HS : LastSep s.data.toList ((k : Int) - 1) := by
          rw [show (k : Int) - 1 = ((k - 1 : Nat) : Int) by omega]
          exact lastSep_at hgl (by rw [← hgd]; exact hsep) (by rw [show k - 1 + 1 = k by omega]; exact HC.out)
        have HS := Lib.hid HS
        have HI := fun W => Lib.hid (idxHit _ hsep W)
        clear hsep b4 b5 hgd
        generalize s.data.toList.getD (k - 1) 0 = c at *
        go_wp2_with (first
          | (go_at_call 12; (with_reducible refine HD.out.mono ?_); rintro _ w2 ⟨rfl, hb2⟩)
          | (go_at_call 8; (with_reducible refine (HI _).out.mono ?_); rintro _ w3 ⟨⟨q, rfl, hq⟩, hb3⟩))
        go_ret
        exact ⟨_, rfl, HS.out, (HB.out.trans (hb2.mono HB.out.size)).trans (hb3.mono (Nat.le_trans HB.out.size hb2.size))⟩
      | false =>
        obtain ⟨c1, c2, c3⟩ := b5 hsep
        have HS := Lib.hid (c3 HC.out)
        clear hsep b4 b5 hgd c3
        go_wp2_with (first
          | (go_at_call 12; (with_reducible refine HD.out.mono ?_); rintro _ w2 ⟨rfl, hb2⟩)
          | (go_at_call 8; (with_reducible refine (idxMiss _ (by omega) (by omega) (by omega) (by omega) _).mono ?_); rintro _ w3 ⟨rfl, hb3⟩))
        go_roundw
        case rel => exact ⟨k - K, by omega, by go_num, HS.out, (HB.out.trans (hb2.mono HB.out.size)).trans (hb3.mono (Nat.le_trans HB.out.size hb2.size))⟩
        case measure => simp [Lib.intOf]; omega
    · go_wp2
      go_ret
      exact ⟨-1, rfl, .inl ⟨rfl, by have := HC.out; rw [show k = 0 by omega] at this; exact this⟩, HB.out⟩

theorem zero27 : ∀ w, (zeroValue 27).run Tryd.prog w = .ok (.agg (Array.replicate 256 (.bool false))) w := by
  have h : (Tryd.prog.info? 27).map (·.zero) = some (some (.agg (Array.replicate 256 (.bool false)))) := by kernel_rfl
  intro w
  cases hi : Tryd.prog.info? 27 with
  | none => rw [hi] at h; cases h
  | some i =>
    rw [hi] at h
    simp only [Option.map_some, Option.some.injEq] at h
    simp [zeroValue, typeInfo, hi, h]
set_option maxRecDepth 100000 in
set_option maxHeartbeats 2000000 in
theorem lastLong (s : ByteArray) (hs : 8 < s.size) (hs2 : s.size ≤ 4194304) (w : World) :
    Calls Tryd.prog 7 #[.string s, .string ⟨#[47, 92]⟩] w (LA s.data.toList w) := by
  have hll := len_tl s
  have HL := Lib.hid hll
  have h1 : ((s.size : Int) == 1) = false := by simp; omega
  clear hll
  have HM := fun W => Lib.hid (Tryd.strings_makeASCIISet zero27 ⟨#[47, 92]⟩ W (by decide) (by
    intro j b hj
    rcases j with _ | _ | j
    · simp at hj; subst hj; decide
    · simp at hj; subst hj; decide
    · simp at hj))
  go_enter Tryd.func7, Tryd.ntmps7
  go_wp2_with (first
    | (go_at_call 9; (with_reducible refine (Tryd.strings_shouldUseASCIISet _ _).mono ?_); rintro _ w1 ⟨rfl, hw⟩; subst hw; rw [show decide ((8 : Int) < (s.size : Int)) = true from decide_eq_true (by omega)])
    | (go_at_call 10; (with_reducible refine (HM _).out.mono ?_); rintro _ w2 ⟨rfl, rfl⟩; rw [show Lib.setCells (ByteArray.mk #[47, 92]).data.toList = Lib.setCells [47, 92] from rfl]; generalize hS : Lib.setCells [47, 92] = S))
  obtain ⟨Z, hZ⟩ : ∃ Z, Z = Array.replicate 256 (Value.bool false) := ⟨_, rfl⟩
  have hZs : Z.size = 256 := by rw [hZ]; simp
  have hSs : S.size = 256 := by rw [← hS]; exact Lib.setCells_size _
  have hS1 : S.all (·.oneCell') = true := by rw [← hS]; exact Lib.setCells_one _
  have hsc : (storeCells ⟨w1.heap.size + 1, 0, none⟩ S.toList 0).run Tryd.prog ((w1.alloc (.cells S 27)).alloc (.cells Z 27)) = .ok () ((w1.alloc (.cells S 27)).alloc (.cells S 27)) := by
    have := run_storeCells_new (P := Tryd.prog) (w1.alloc (.cells S 27)) 27 Z S (by rw [hSs]; kernel_rfl) (by rw [hZs, hSs]) hS1
    rwa [show (w1.alloc (Obj.cells S 27)).heap.size = w1.heap.size + 1 by simp] at this
  have HZ := Lib.hid hZs
  have HS := Lib.hid hS
  rw [zero27, ← hZ]
  clear hZs hS1 hS hZ
  simp only [Result.andThen]
  rw [Oper.upon_value]
  go_wp2_with fail
  have hcell : ∀ x : UInt8, ((w1.alloc (.cells S 27)).alloc (.cells S 27)).cell? ⟨w1.heap.size + 1, x.toNat, none⟩ = some (.bool (sep x)) := by
    intro x
    have hx := set_at x.toNat x.toNat_lt
    rw [HS.out] at hx
    have e1 : ((w1.alloc (.cells S 27)).alloc (.cells S 27)).heap[w1.heap.size + 1]? = some (.cells S 27) := by
      have := heap_alloc_last (w1.alloc (.cells S 27)) (.cells S 27)
      rwa [show (w1.alloc (Obj.cells S 27)).heap.size = w1.heap.size + 1 by simp] at this
    have e2 : (x.toNat == 47 || x.toNat == 92) = sep x := by
      unfold sep
      rw [Bool.eq_iff_iff]; simp [← UInt8.toNat_inj]
    rw [← e2, ← hx]
    exact cell_of_row _ _ _ _ _ _ e1
  have hbel : Below w1.heap.size w1 ((w1.alloc (.cells S 27)).alloc (.cells S 27)) := by go_grown
  obtain ⟨w2, hw2⟩ : ∃ w2 : World, w2 = (w1.alloc (.cells S 27)).alloc (.cells S 27) := ⟨_, rfl⟩
  rw [← hw2] at hcell hbel ⊢
  have HC := Lib.hid hcell
  have HB := Lib.hid hbel
  clear hw2 hcell hbel hsc hSs
  go_loop [8] (fun i => ∃ q : Int, -1 ≤ q ∧ q < s.size ∧ i = .int .i64 q ∧ Clean (s.data.toList.drop (q + 1).toNat)) (fun i => (Lib.intOf i + 1).toNat)
  case atStart => exact ⟨_, by omega, by omega, rfl, by rw [show ((s.size : Int) - 1 + 1).toNat = s.size by omega, ← HL.out, List.drop_length]; exact (fun c hc => by cases hc)⟩
  case round =>
    obtain ⟨q, hq1, hq2, rfl, hcl⟩ := hrel
    have HCL := Lib.hid hcl
    clear hcl
    by_cases h0 : 0 ≤ q
    · obtain ⟨n, rfl⟩ : ∃ n : Nat, q = n := ⟨q.toNat, by omega⟩
      have hn : n < s.size := by omega
      obtain ⟨x, hx⟩ : ∃ x, s[n]'hn = x := ⟨_, rfl⟩
      have hxl : s.data.toList[n]'(by rw [HL.out]; exact hn) = x := by rw [← hx]; rfl
      have HX := Lib.hid hxl
      have HN := fun (h : sep x = false) => Tryd.asciiSet_contains (w1.heap.size + 1) x false w2 (by rw [HC.out x, h])
      have HY := fun (h : sep x = true) => Tryd.asciiSet_contains (w1.heap.size + 1) x true w2 (by rw [HC.out x, h])
      clear hxl
      cases hsep : sep x with
      | true =>
        have HY := Lib.hid (HY hsep)
        have HR : LastSep s.data.toList n := lastSep_at (by rw [HL.out]; exact hn) (by rw [HX.out]; exact hsep) (by have := HCL.out; rwa [show ((n : Int) + 1).toNat = n + 1 by omega] at this)
        have HR := Lib.hid HR
        clear HN hsep
        go_wp2_with (go_at_call 11; (with_reducible refine HY.out.mono ?_); rintro _ w3 ⟨rfl, hw3⟩; subst hw3)
        go_ret
        exact ⟨_, rfl, HR.out, HB.out⟩
      | false =>
        have HN := Lib.hid (HN hsep)
        have HR : Clean (s.data.toList.drop n) := clean_drop (by rw [HL.out]; exact hn) (by rw [HX.out]; exact hsep) (by have := HCL.out; rwa [show ((n : Int) + 1).toNat = n + 1 by omega] at this)
        have HR := Lib.hid HR
        clear HY hsep
        go_wp2_with (go_at_call 11; (with_reducible refine HN.out.mono ?_); rintro _ w3 ⟨rfl, hw3⟩; subst hw3)
        go_round
        case rel => exact ⟨(n : Int) - 1, by omega, by omega, rfl, by rw [show ((n : Int) - 1 + 1).toNat = n by omega]; exact HR.out⟩
        case measure => simp [Lib.intOf]
    · go_wp2
      go_ret
      exact ⟨-1, rfl, .inl ⟨rfl, by have := HCL.out; rwa [show (q + 1).toNat = 0 by omega] at this⟩, HB.out⟩

theorem one_list {s : ByteArray} (h : s.size = 1) : ∃ c, s.data.toList = [c] ∧ s[0]'(by omega) = c := by
  have hl : s.data.toList.length = 1 := by rw [len_tl]; exact h
  match hq : s.data.toList, hl with
  | [c], _ =>
    refine ⟨c, rfl, ?_⟩
    have : s.data.toList[0]'(by rw [hq]; simp) = c := by simp [hq]
    rw [← this]; rfl
set_option maxRecDepth 100000 in
set_option maxHeartbeats 2000000 in
theorem lastOne (s : ByteArray) (hs : s.size = 1) (w : World) :
    Calls Tryd.prog 7 #[.string s, .string ⟨#[47, 92]⟩] w (LA s.data.toList w) := by
  obtain ⟨c, hl, hc⟩ := one_list hs
  have HL := Lib.hid hl
  have hz : (s.size : Int) = 1 := by omega
  clear hl
  cases hsep : sep c with
  | true =>
    have HR : LastSep s.data.toList 0 := by rw [HL.out]; exact .inr ⟨0, rfl, [], c, [], rfl, rfl, hsep, fun c hc => by cases hc⟩
    have HR := Lib.hid HR
    have hlow : ¬ ((128 : Int) ≤ (c.toNat : Int)) := by
      have : c = 47 ∨ c = 92 := by unfold sep at hsep; simpa using hsep
      rcases this with rfl | rfl <;> decide
    have HI := fun W => Lib.hid (idxHit c hsep W)
    clear hsep
    go_enter Tryd.func7, Tryd.ntmps7
    go_wp2_with (go_at_call 8; (with_reducible refine (HI _).out.mono ?_); rintro _ w3 ⟨⟨q, rfl, hq⟩, hb3⟩)
    go_ret
    exact ⟨_, rfl, HR.out, hb3⟩
  | false =>
    have HR : LastSep s.data.toList (-1) := by rw [HL.out]; exact .inl ⟨rfl, fun c hc => by simp at hc; rw [hc]; exact hsep⟩
    have HR := Lib.hid HR
    have h47 : c.toNat ≠ 47 := fun e => by rw [show c = 47 from UInt8.toNat_inj.1 e] at hsep; exact absurd hsep (by decide)
    have h92 : c.toNat ≠ 92 := fun e => by rw [show c = 92 from UInt8.toNat_inj.1 e] at hsep; exact absurd hsep (by decide)
    have hlt := c.toNat_lt
    clear hsep
    by_cases hlow : c.toNat < 128
    · have hn : ¬ ((128 : Int) ≤ (c.toNat : Int)) := by omega
      have HI := fun W => Lib.hid (idxMiss c.toNat (by omega) (by omega) (by omega) (by omega) W)
      go_enter Tryd.func7, Tryd.ntmps7
      go_wp2_with (go_at_call 8; (with_reducible refine (HI _).out.mono ?_); rintro _ w3 ⟨rfl, hb3⟩)
      go_ret
      exact ⟨_, rfl, HR.out, hb3⟩
    · have hn : (128 : Int) ≤ (c.toNat : Int) := by omega
      have HI := fun W => Lib.hid (idxErr W)
      go_enter Tryd.func7, Tryd.ntmps7
      go_wp2_with (go_at_call 8; (with_reducible refine (HI _).out.mono ?_); rintro _ w3 ⟨rfl, hb3⟩)
      go_ret
      exact ⟨_, rfl, HR.out, hb3⟩
/-- strings.LastIndexAny at the two separators. -/
theorem last7 (s : ByteArray) (hs : s.size ≤ 4194304) (w : World) (hT : Lib.Utf8Tabs 1 2 w) :
    Calls Tryd.prog 7 #[.string s, .string ⟨#[47, 92]⟩] w (LA s.data.toList w) := by
  by_cases h1 : s.size = 1
  · exact lastOne s h1 w
  · by_cases h8 : s.size ≤ 8
    · exact lastShort s h8 (by simp; omega) w hT
    · exact lastLong s (by omega) hs w
end Go.Proofs.YtlgdojbojlbehaaDoor
