/-
  Contracts of parseBareIdentifier and of what it calls. No condition.
-/
import Derived.Test.YtlgdojbojlbehaaOwn
import Derived.Test.YtlgdojbojlbehaaProg
import Derived.WalkSmall
import Derived.Lib.Bytealg
import Derived.Lib.Strings
import Derived.Lib.IndexBytes
namespace Go.Proofs.Ytlgdojbojlbehaa
open Go.ChangeShapes Go.WideShapes Go.ChangeAt Go.RowKit
set_option linter.unusedVariables false

set_option maxHeartbeats 1000000 in
theorem idx12 (s : ByteArray) (c : Int) (w : World) :
    Calls Try.prog 12 #[.string s, .int .u8 c] w fun e w' => e = .returned (.int .i64 (Lib.indexByte s.data.toList c.toNat.toUInt8)) ∧ w = w' := by
  go_enter Try.func12, Try.ntmps12
  go_wp2
  rw [run_callFunc_extern (e := Extern.BytealgIndexByte.indexByte) Try.func14 (by kernel_rfl) (by kernel_rfl) (by kernel_rfl) (by kernel_rfl), Lib.run_indexByteString]
  simp only [Result.andThen]
  rw [Oper.upon_value]
  go_wp2
  go_ret
  exact ⟨rfl, rfl⟩
set_option maxHeartbeats 1000000 in
theorem idx10 (s : ByteArray) (c : Int) (w : World) :
    Calls Try.prog 10 #[.string s, .int .u8 c] w fun e w' => e = .returned (.int .i64 (Lib.indexByte s.data.toList c.toNat.toUInt8)) ∧ w = w' := by
  go_enter Try.func10, Try.ntmps10
  go_wp2_with (go_at_call 12; (with_reducible refine (idx12 s c w).mono ?_); rintro _ _ ⟨rfl, rfl⟩)
  go_ret
  exact ⟨rfl, rfl⟩
/-- Does the text begin with an at sign? -/
def at0 (s : ByteArray) : Bool := s.data.toList.head? == some 64
theorem tl (x : ByteArray) : x.toList = x.data.toList := by rw [ByteArray.toList_eq]
theorem len_tl (x : ByteArray) : x.data.toList.length = x.size := rfl
theorem at0_take (s : ByteArray) : ((s.extract 0 1).toList == [64]) = at0 s := by
  rw [tl, Lib.extract_data]
  unfold at0
  cases s.data.toList with
  | nil => rfl
  | cons a l => simp
theorem at0_nil (s : ByteArray) (h : (s.size : Int) < 1) : at0 s = false := by
  unfold at0
  have : s.data.toList = [] := List.eq_nil_of_length_eq_zero (by rw [len_tl]; omega)
  rw [this]; rfl
theorem pre13 (s : ByteArray) (hs : s.size ≤ 4194304) (w : World) :
    Calls Try.prog 13 #[.string s, .string ⟨#[64]⟩] w fun e w' => e = .returned (.bool (at0 s)) ∧ w = w' := by
  go_enter Try.func13, Try.ntmps13
  go_wp2
  · go_ret
    refine ⟨?_, rfl⟩
    rw [← at0_take]; rfl
  · go_ret
    refine ⟨?_, rfl⟩
    rw [at0_nil s (by assumption)]; rfl
theorem pre11 (s : ByteArray) (b : Bool) (hb : at0 s = b) (hs : s.size ≤ 4194304) (w : World) :
    Calls Try.prog 11 #[.string s, .string ⟨#[64]⟩] w fun e w' => e = .returned (.bool b) ∧ w = w' := by
  have H := Lib.hid (pre13 s hs w)
  rw [hb] at H
  clear hb
  go_enter Try.func11, Try.ntmps11
  go_wp2_with (go_at_call 13; (with_reducible refine H.out.mono ?_); rintro _ _ ⟨rfl, rfl⟩)
  go_ret
  exact ⟨rfl, rfl⟩

/-! ### Where the slash stands -/
theorem idx_app (c : UInt8) : ∀ (A B : List UInt8), c ∉ A → Lib.indexByte (A ++ c :: B) c = A.length
  | [], B, _ => by simp [Lib.indexByte]
  | a :: A, B, h => by
    have h1 : ¬ a = c := fun e => h (by simp [e])
    have h2 := idx_app c A B (fun e => h (by simp [e]))
    simp only [List.cons_append, Lib.indexByte, h2]
    rw [if_neg (by simpa using h1), if_neg (by simp)]
    simp
theorem idx_not (c : UInt8) : ∀ (A : List UInt8), c ∉ A → Lib.indexByte A c = -1
  | [], _ => rfl
  | a :: A, h => by
    have h1 : ¬ a = c := fun e => h (by simp [e])
    have h2 := idx_not c A (fun e => h (by simp [e]))
    simp only [Lib.indexByte, h2]
    rw [if_neg (by simpa using h1)]; rfl
theorem split_at (c : UInt8) : ∀ (l : List UInt8), c ∉ l ∨ ∃ A B, l = A ++ c :: B ∧ c ∉ A
  | [] => .inl (by simp)
  | a :: l => by
    by_cases h : a = c
    · exact .inr ⟨[], l, by simp [h], by simp⟩
    · rcases split_at c l with h2 | ⟨A, B, e, h2⟩
      · exact .inl (fun q => by rcases List.mem_cons.1 q with q | q; exact h q.symm; exact h2 q)
      · exact .inr ⟨a :: A, B, by simp [e], fun q => by rcases List.mem_cons.1 q with q | q; exact h q.symm; exact h2 q⟩
def ixs (s : ByteArray) : Int := Lib.indexByte s.data.toList (47 : Int).toNat.toUInt8
theorem ixs_cases (s : ByteArray) : (ixs s = -1 ∧ (47 : UInt8) ∉ s.data.toList) ∨ ∃ A B, s.data.toList = A ++ 47 :: B ∧ (47 : UInt8) ∉ A ∧ ixs s = A.length ∧ A.length + 1 + B.length = s.size := by
  have e : ixs s = Lib.indexByte s.data.toList 47 := rfl
  rcases split_at 47 s.data.toList with h | ⟨A, B, h, h2⟩
  · exact .inl ⟨by rw [e, idx_not _ _ h], h⟩
  · refine .inr ⟨A, B, h, h2, by rw [e, h, idx_app _ _ _ h2], ?_⟩
    have := len_tl s
    rw [h] at this
    simp at this; omega
theorem ixs_bd (s : ByteArray) : -1 ≤ ixs s ∧ ixs s < s.size := by
  rcases ixs_cases s with ⟨h, _⟩ | ⟨A, B, _, _, h, h2⟩ <;> rw [h] <;> omega
/-- The part of a specifier that names the package. -/
def identOf (s : ByteArray) : Option ByteArray :=
  if at0 s then
    if ixs s = -1 then none
    else if ixs (s.extract (ixs s + 1).toNat s.size) = -1 then some s
    else some (s.extract 0 (ixs s + 1 + ixs (s.extract (ixs s + 1).toNat s.size)).toNat)
  else if ixs s = -1 then some s else some (s.extract 0 (ixs s).toNat)
theorem size_from (s : ByteArray) (a : Nat) (h : a ≤ s.size) : (s.extract a s.size).size = s.size - a := by
  rw [← len_tl, Lib.extract_to_end, List.length_drop, len_tl]
theorem size_to (s : ByteArray) (b : Nat) (h : b ≤ s.size) : (s.extract 0 b).size = b := by
  rw [← len_tl, Lib.extract_data]; simp; omega
theorem idxs (s : ByteArray) (i : Int) (hi : ixs s = i) (w : World) :
    Calls Try.prog 10 #[.string s, .int .u8 47] w fun e w' => e = .returned (.int .i64 i) ∧ w = w' := by rw [← hi]; exact idx10 s 47 w
theorem ba_ext {a b : ByteArray} (h : a.data.toList = b.data.toList) : a = b := ByteArray.ext (Array.toList_inj.1 h)
theorem ex_self (s : ByteArray) : ByteArray.empty = s.extract s.size s.size := ba_ext (by rw [Lib.extract_to_end, ← len_tl, List.drop_length]; rfl)
def Parsed (s : ByteArray) (w : World) (e : Ending) (w' : World) : Prop :=
  ∃ I M ok, e = .returned (.tuple #[.string I, .string M, .bool ok]) ∧ (ok = true → identOf s = some I ∧ M = s.extract I.size s.size) ∧ (ok = false → identOf s = none) ∧ w = w'
theorem yes {s I M : ByteArray} (h : identOf s = some I) (hM : M = s.extract I.size s.size) : (true = true → identOf s = some I ∧ M = s.extract I.size s.size) ∧ (true = false → identOf s = none) :=
  ⟨fun _ => ⟨h, hM⟩, fun q => by cases q⟩
set_option maxHeartbeats 1000000 in
theorem parse9 (s : ByteArray) (hs : s.size ≤ 4194304) (w : World) : Calls Try.prog 9 #[.string s] w (Parsed s w) := by
  have bd := ixs_bd s
  cases ha : at0 s
  · have HP := Lib.hid (pre11 s false ha hs w)
    obtain ⟨i, hi⟩ : ∃ i, ixs s = i := ⟨_, rfl⟩
    have HX := Lib.hid (idxs s i hi w)
    rw [hi] at bd
    by_cases h0 : i = -1
    · have HR : Hid (identOf s = some s) := by show _ = _; unfold identOf; rw [ha, if_neg (by simp), hi, if_pos h0]
      subst h0
      clear hi ha
      go_enter Try.func9, Try.ntmps9
      go_wp2_with (first
        | (go_at_call 10; (with_reducible refine HX.out.mono ?_); rintro _ _ ⟨rfl, rfl⟩)
        | (go_at_call 11; (with_reducible refine HP.out.mono ?_); rintro _ _ ⟨rfl, rfl⟩))
      go_ret3
      exact ⟨s, _, true, rfl, (yes HR.out (ex_self s)).1, (fun q => by cases q), rfl⟩
    · have HR : Hid (identOf s = some (s.extract 0 i.toNat)) := by show _ = _; unfold identOf; rw [ha, if_neg (by simp), hi, if_neg h0]
      have hsz := size_to s i.toNat (by omega)
      have HZ := Lib.hid hsz
      obtain ⟨hb1, hb2⟩ := bd
      have hb0 : 0 ≤ i := by omega
      have hne : (i == -1) = false := by simpa using h0
      have hnn : (i != -1) = true := by simpa using h0
      clear hi ha h0
      go_enter Try.func9, Try.ntmps9
      go_wp2_with (first
        | (go_at_call 10; (with_reducible refine HX.out.mono ?_); rintro _ _ ⟨rfl, rfl⟩)
        | (go_at_call 11; (with_reducible refine HP.out.mono ?_); rintro _ _ ⟨rfl, rfl⟩))
      go_ret3
      refine ⟨s.extract 0 i.toNat, _, true, rfl, fun _ => ⟨HR.out, ?_⟩, (fun q => by cases q), rfl⟩
      rw [HZ.out, Int.max_eq_left hb0]
  · have HP := Lib.hid (pre11 s true ha hs w)
    obtain ⟨i, hi⟩ : ∃ i, ixs s = i := ⟨_, rfl⟩
    have HX := Lib.hid (idxs s i hi w)
    rw [hi] at bd
    by_cases h0 : i = -1
    · have HR : Hid (identOf s = none) := by show _ = _; unfold identOf; rw [ha, if_pos rfl, hi, if_pos h0]
      subst h0
      clear hi ha
      go_enter Try.func9, Try.ntmps9
      go_wp2_with (first
        | (go_at_call 10; (with_reducible refine HX.out.mono ?_); rintro _ _ ⟨rfl, rfl⟩)
        | (go_at_call 11; (with_reducible refine HP.out.mono ?_); rintro _ _ ⟨rfl, rfl⟩))
      go_ret3
      exact ⟨_, _, false, rfl, (fun q => by cases q), fun _ => HR.out, rfl⟩
    · obtain ⟨r, hr⟩ : ∃ r, r = s.extract (i + 1).toNat s.size := ⟨_, rfl⟩
      have bd2 := ixs_bd r
      have hrs := size_from s (i + 1).toNat (by omega)
      rw [← hr] at hrs
      obtain ⟨j, hj⟩ : ∃ j, ixs r = j := ⟨_, rfl⟩
      have HY := Lib.hid (idxs r j hj w)
      rw [hj, hrs] at bd2
      obtain ⟨hb1, hb2⟩ := bd
      obtain ⟨hc1, hc2⟩ := bd2
      have hb0 : 0 ≤ i := by omega
      have hne : (i == -1) = false := by simpa using h0
      have hnn : (i != -1) = true := by simpa using h0
      by_cases h1 : j = -1
      · have HR : Hid (identOf s = some s) := by show _ = _; unfold identOf; rw [ha, if_pos rfl, hi, if_neg h0, ← hr, hj, if_pos h1]
        subst h1
        rw [hr] at HY
        clear hi ha h0 hj hr hrs
        go_enter Try.func9, Try.ntmps9
        go_wp2_with (first
          | (go_at_call 10; (with_reducible refine HX.out.mono ?_); rintro _ _ ⟨rfl, rfl⟩)
          | (go_at_call 10; (with_reducible refine HY.out.mono ?_); rintro _ _ ⟨rfl, rfl⟩)
          | (go_at_call 11; (with_reducible refine HP.out.mono ?_); rintro _ _ ⟨rfl, rfl⟩))
        go_ret3
        exact ⟨s, _, true, rfl, (yes HR.out (ex_self s)).1, (fun q => by cases q), rfl⟩
      · have HR : Hid (identOf s = some (s.extract 0 (i + 1 + j).toNat)) := by show _ = _; unfold identOf; rw [ha, if_pos rfl, hi, if_neg h0, ← hr, hj, if_neg h1]
        have HZ := Lib.hid (size_to s (i + 1 + j).toNat (by omega))
        have hsz := HZ.out
        have hd0 : 0 ≤ j := by omega
        have hd1 : i + 1 + j ≤ s.size := by omega
        have hne' : (j == -1) = false := by simpa using h1
        have hnn' : (j != -1) = true := by simpa using h1
        rw [hr] at HY
        clear hi ha h0 hj hr hrs h1
        go_enter Try.func9, Try.ntmps9
        go_wp2_with (first
          | (go_at_call 10; (with_reducible refine HX.out.mono ?_); rintro _ _ ⟨rfl, rfl⟩)
          | (go_at_call 10; (with_reducible refine HY.out.mono ?_); rintro _ _ ⟨rfl, rfl⟩)
          | (go_at_call 11; (with_reducible refine HP.out.mono ?_); rintro _ _ ⟨rfl, rfl⟩))
        go_ret3
        refine ⟨s.extract 0 (i + 1 + j).toNat, _, true, rfl, fun _ => ⟨HR.out, ?_⟩, (fun q => by cases q), rfl⟩
        rw [HZ.out, Int.max_eq_left (by omega)]
theorem parse6 (s : ByteArray) (hs : s.size ≤ 4194304) (w : World) : Calls Try.prog 6 #[.string s] w (Parsed s w) := by
  have H := Lib.hid (parse9 s hs w)
  go_enter Try.func6, Try.ntmps6
  go_wp2_with (go_at_call 9; (with_reducible refine H.out.mono ?_); rintro _ _ ⟨I, M, ok, rfl, h1, h2, rfl⟩; have H1 := Lib.hid h1; have H2 := Lib.hid h2; clear h1 h2)
  go_ret3
  exact ⟨_, _, _, rfl, H1.out, H2.out, rfl⟩

/-! ### The law in plain words -/
def Good (l : List UInt8) : Prop := (l.head? ≠ some 64 ∧ (47 : UInt8) ∉ l) ∨ ∃ A B, l = A ++ 47 :: B ∧ l.head? = some 64 ∧ (47 : UInt8) ∉ A ∧ (47 : UInt8) ∉ B
theorem at0_iff (s : ByteArray) : at0 s = true ↔ s.data.toList.head? = some 64 := by unfold at0; simp
theorem head_of {A B : List UInt8} (h : (A ++ 47 :: B).head? = some 64) : A ≠ [] := by
  rintro rfl
  simp at h
theorem good_of {s I : ByteArray} (h : identOf s = some I) : Good I.data.toList := by
  unfold identOf at h
  by_cases ha : at0 s = true
  · rw [if_pos ha] at h
    have hh := (at0_iff s).1 ha
    rcases ixs_cases s with ⟨e, hn⟩ | ⟨A, B, hl, hA, e, hs⟩
    · rw [if_pos e] at h; cases h
    · rw [if_neg (by omega)] at h
      have er : (s.extract (ixs s + 1).toNat s.size).data.toList = B := by
        rw [Lib.extract_to_end, hl, e, show ((A.length : Int) + 1).toNat = (A ++ [47]).length by simp, show A ++ 47 :: B = (A ++ [47]) ++ B by simp, List.drop_left]
      rcases ixs_cases (s.extract (ixs s + 1).toNat s.size) with ⟨e2, hn⟩ | ⟨C, D, hl2, hC, e2, hs2⟩
      · rw [if_pos e2] at h
        cases h
        rw [er] at hn
        exact .inr ⟨A, B, hl, hh, hA, hn⟩
      · rw [if_neg (by omega)] at h
        cases h
        rw [er] at hl2
        have el : (s.extract 0 (ixs s + 1 + ixs (s.extract (ixs s + 1).toNat s.size)).toNat).data.toList = A ++ 47 :: C := by
          rw [Lib.extract_data, e2, e, hl, hl2, List.drop_zero, show ((A.length : Int) + 1 + C.length).toNat - 0 = (A ++ 47 :: C).length by simp; omega, show A ++ 47 :: (C ++ 47 :: D) = (A ++ 47 :: C) ++ 47 :: D by simp, List.take_left]
        refine .inr ⟨A, C, el, ?_, hA, hC⟩
        rw [el]
        rw [hl] at hh
        have := head_of hh
        cases A with
        | nil => exact absurd rfl this
        | cons a A => simpa using hh
  · rw [if_neg ha] at h
    have hh : ¬ s.data.toList.head? = some 64 := fun q => ha ((at0_iff s).2 q)
    rcases ixs_cases s with ⟨e, hn⟩ | ⟨A, B, hl, hA, e, hs⟩
    · rw [if_pos e] at h; cases h
      exact .inl ⟨hh, hn⟩
    · rw [if_neg (by omega)] at h
      cases h
      have el : (s.extract 0 (ixs s).toNat).data.toList = A := by
        rw [Lib.extract_data, e, hl, List.drop_zero, show (A.length : Int).toNat - 0 = A.length by simp, List.take_left]
      refine .inl ⟨?_, by rw [el]; exact hA⟩
      rw [el]
      cases A with
      | nil => simp
      | cons a A => rw [hl] at hh; simpa using hh
theorem ixs_of {s : ByteArray} {A B : List UInt8} (h : s.data.toList = A ++ 47 :: B) (hA : (47 : UInt8) ∉ A) : ixs s = A.length := by
  show Lib.indexByte s.data.toList 47 = _
  rw [h, idx_app _ _ _ hA]
theorem ident_good {I u : ByteArray} {T : List UInt8} (hg : Good I.data.toList) (hu : u.data.toList = I.data.toList ++ 47 :: T) : identOf u = some I := by
  unfold identOf
  rcases hg with ⟨hh, hn⟩ | ⟨A, B, hl, hh, hA, hB⟩
  · have ha : ¬ at0 u = true := by
      rw [at0_iff, hu]
      cases hI : I.data.toList with
      | nil => simp
      | cons a l => rw [hI] at hh; simpa using hh
    rw [if_neg ha, ixs_of hu hn, if_neg (by omega)]
    congr 1
    refine ba_ext ?_
    rw [Lib.extract_data, hu, List.drop_zero, show (I.data.toList.length : Int).toNat - 0 = I.data.toList.length by simp, List.take_left]
  · have hu2 : u.data.toList = A ++ 47 :: (B ++ 47 :: T) := by rw [hu, hl]; simp
    have ha : at0 u = true := by
      rw [at0_iff, hu]
      cases hI : I.data.toList with
      | nil => rw [hI] at hh; simp at hh
      | cons a l => rw [hI] at hh; simpa using hh
    have e1 := ixs_of hu2 hA
    have er : (u.extract (ixs u + 1).toNat u.size).data.toList = B ++ 47 :: T := by
      rw [Lib.extract_to_end, hu2, e1, show ((A.length : Int) + 1).toNat = (A ++ [47]).length by simp, show A ++ 47 :: (B ++ 47 :: T) = (A ++ [47]) ++ (B ++ 47 :: T) by simp, List.drop_left]
    have e2 := ixs_of er hB
    rw [if_pos ha, if_neg (by omega), if_neg (by omega)]
    congr 1
    refine ba_ext ?_
    rw [Lib.extract_data, e2, e1, hu, List.drop_zero, show ((A.length : Int) + 1 + B.length).toNat - 0 = I.data.toList.length by rw [hl]; simp; omega, List.take_left]
end Go.Proofs.Ytlgdojbojlbehaa
