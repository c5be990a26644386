/-
  What the law FnFlushFailureIsRepeatableAndReadOnly does, for every input. No condition.
-/
import Derived.Test.YteamfcjfoihehaaGreatDoorLe
namespace Go.Proofs.YteamfcjfoihehaaGreatDoor.fnFlushFailureIsRepeatableAndReadOnly
open Go.ChangeShapes Go.WideShapes Go.ChangeAt Go.RowKit
open Go.MuLone
set_option linter.unusedVariables false

theorem fr1 {base K M X H n : Nat} {s : Int} {v : Value} {ms : List Value} {w w' : World} (h : Lg base K M X H s v ms n w) (hF : Fr (fun k => k = M ∨ k = X ∨ v.ownBlock = some k) w w') {g : Nat} {t : TypeId} {cs : Array Value} (hb : Bk w g t cs) (h1 : t ≠ 134) (h2 : t ≠ 129) (h3 : 48 ≠ t) : Bk w' g t cs :=
  hb.fr hF (by
    rintro (rfl | rfl | q)
    · exact ne_of_types (w := w) (t := t) (t' := 134) hb h.m h1 rfl
    · exact ne_of_types (w := w) (t := t) (t' := 129) hb h.x h2 rfl
    · exact own_ne h.own hb h3 q)
theorem fr2 {base K M X H n : Nat} {s : Int} {v : Value} {ms : List Value} {w w' : World} (h : Lg base K M X H s v ms n w) (hF : Fr (fun k => k = M ∨ k = X ∨ v.ownBlock = some k) w w') (hB : base ≤ w.heap.size) : Below base w w' :=
  hF.below hB (by
    rintro k hk (rfl | rfl | q)
    · have := h.bm; omega
    · have := h.bx; omega
    · have := (own_lt h.own k q).1; omega)
theorem frR {base K M X H n R : Nat} {s lvl : Int} {v : Value} {ms : List Value} {w w' : World} (h : Lg base K M X H s v ms n w) (hF : Fr (fun k => k = M ∨ k = X ∨ v.ownBlock = some k) w w') (hR : Rs R K M X H lvl w) : Rs R K M X H lvl w' := by
  obtain ⟨cs, hk, h2⟩ := hR
  exact ⟨cs, fr1 h hF hk (by decide) (by decide) (by decide), h2⟩
theorem frX {X : Nat} {v : Value} {M : Nat} {w w' : World} (hF : Fr (fun k => k = X) w w') : Fr (fun k => k = M ∨ k = X ∨ v.ownBlock = some k) w w' := hF.mono (fun i _ q => .inr (.inl q))
set_option maxRecDepth 100000 in
theorem lev10 (a : Int) (h : a = 0 ∨ a = 1 ∨ a = 2) (w : World) : Calls Tryz.prog 10 #[.int .i64 a] w fun e w' => e = .returned (.int .i8 a) ∧ w = w' := by
  rcases h with rfl | rfl | rfl
  all_goals
    go_enter Tryz.func10, Tryz.ntmps10
    go_wp2
    go_ret
    exact ⟨rfl, rfl⟩
theorem take_snoc (zs : List ByteArray) (k : Nat) (h : k < zs.length) : zs.take (k + 1) = zs.take k ++ [zs.getD k ByteArray.empty] := by
  rw [List.take_add_one, List.getD_eq_getElem?_getD, List.getElem?_eq_getElem h]; rfl
theorem nil_add (s : ByteArray) : (⟨#[]⟩ : ByteArray) ++ s = s := by apply ByteArray.ext; simp
set_option maxRecDepth 100000 in
set_option maxHeartbeats 16000000 in
theorem walk (a0 : ByteArray) (a1 : Option Addr) (len1 cap1 : Nat) (z1 : List ByteArray) (a2 : Int) (w : World) (w0 : a0.size ≤ maxLen) (w1 : IsStrs w a1 len1 cap1 z1) (w2 : (Lit.int .i64 a2).wf = true) :
    Calls Tryz.prog 3 #[.string a0, .slice a1 len1 cap1, .int .i64 a2] w fun e w' => e = .returned (.bool true) ∧ Below w.heap.size w w' := by
  unfold maxLen at w0
  have m0 : len1 ≤ 9223372036854775807 := by have := w1.1.2.1; have := w1.1.2.2.1; unfold maxLen at this; omega
  by_cases hl : len1 ≤ 4096
  · by_cases ht : a0.size ≤ 1048576
    · go_enter Tryz.func3, Tryz.ntmps3
      go_wp2_with fail
      refine (bytes a2 a1 len1 cap1 z1 a0 w w1 w0).mono ?_
      rintro _ _ (⟨rfl, rfl⟩ | ⟨rfl, rfl, _, htot⟩)
      · go_wp2_with fail
        go_ret
        exact ⟨rfl, Below.refl _ _⟩
      · go_wp2_with fail
        refine (texts a1 len1 cap1 z1 w w1 hl (by omega)).mono ?_
        rintro _ _ ⟨n, rfl, rfl, hn⟩
        by_cases hs : 1048576 < a0.size + n
        · go_wp2_with fail
          go_ret
          exact ⟨rfl, Below.refl _ _⟩
        · by_cases h0 : a2 < 0
          · go_wp2_with fail
            go_ret
            exact ⟨rfl, Below.refl _ _⟩
          · by_cases h2 : 2 < a2
            · go_wp2_with fail
              go_ret
              exact ⟨rfl, Below.refl _ _⟩
            · have hlev : a2 = 0 ∨ a2 = 1 ∨ a2 = 2 := by omega
              have HLEV := Lib.hid hlev
              clear hlev
              go_wp2_with fail
              refine (cloneStrs a1 len1 cap1 z1 w w1 (by omega)).mono ?_
              rintro _ wa ⟨a3, cap3, rfl, hS3, _, hba⟩
              have HS3 := Lib.hid hS3
              have HBA := Lib.hid hba
              have hzl := Lib.hid hS3.len
              have HDB := Lib.hid (newDb wa a0)
              have HP := Lib.hid (fun (k : Nat) (hk : k < z1.length) => piece_le z1 k hk)
              clear hS3 hba w1 w2
              go_wp2_with fail
              refine (newLogs wa a0).mono ?_
              rintro _ _ ⟨rfl, rfl⟩
              have HB0 : Hid (Below wa.heap.size wa (wa.alloc (.cells #[.string a0, .string ⟨#[]⟩, .slice none 0 0] 52))) := Lib.hid ((Below.refl _ _).alloc (Nat.le_refl _) _)
              go_wp2_with fail
              go_loopw [8] (fun i wr => ∃ (k : Nat) (v : Value), k ≤ len1 ∧ i = .int .i64 k ∧ Hid (Db wa.heap.size wa.heap.size a0 ⟨#[]⟩ (z1.take k) v wr) ∧ Hid (Below wa.heap.size wa wr)) (fun i _ => len1 - (intOf i).toNat)
              case atStart => exact ⟨0, _, Nat.zero_le _, rfl, Lib.hid (by rw [List.take_zero]; exact HDB.out), HB0⟩
              case round =>
                clear HDB HB0
                obtain ⟨k, v, hk, rfl, HD, HBR⟩ := hrel
                by_cases hlt : k < len1
                · obtain ⟨b, off, rfl, hb, hcell⟩ := HS3.out.at (by omega)
                  have hcur : wr.cell? ⟨b, off + k, none⟩ = some (.string (z1.getD k ByteArray.empty)) := (HBR.out.cell (p := ⟨b, off + k, none⟩) hb).trans (hcell k hlt)
                  have hpl := HP.out k (by rw [hzl.out]; exact hlt)
                  have HTK := Lib.hid (take_snoc z1 k (by rw [hzl.out]; exact hlt))
                  have hnl : (z1.take k).length ≤ 65536 := by rw [List.length_take]; omega
                  generalize z1.getD k ByteArray.empty = x at *
                  clear hcell
                  go_wp2_with fail
                  refine (addNoteZ HD.out x hnl (by decide) (by omega)).mono ?_
                  rintro _ wx ⟨rfl, v', hD, hB, _⟩
                  go_wp2_with fail
                  exact ⟨⟨k + 1, v', by omega, by go_num, Lib.hid (by rw [HTK.out]; rw [nil_add] at hD; exact hD), Lib.hid (HBR.out.trans hB)⟩, by simp [intOf]; omega⟩
                · have HDF : Hid (Db wa.heap.size wa.heap.size a0 ⟨#[]⟩ z1 v wr) := Lib.hid (by
                    have := HD.out
                    rwa [List.take_of_length_le (by rw [hzl.out]; omega)] at this)
                  clear HD
                  obtain ⟨p, c, hv⟩ := own_form HDF.out.own
                  rw [hzl.out] at hv
                  subst hv
                  obtain ⟨wo, rfl⟩ : ∃ wo : World, wo = wr := ⟨_, rfl⟩
                  have hao := HBR.out.size
                  go_wp2_with fail
                  refine (lev10 a2 HLEV.out _).mono ?_
                  rintro _ _ ⟨rfl, rfl⟩
                  go_wp2_with fail
                  refine (newQ a2 wa.heap.size wo).mono ?_
                  rintro _ w1 ⟨R, K, M, X, H, rfl, hRo, hR, hL, hB1⟩
                  have HBQ := Lib.hid ((Below.refl w1.heap.size w1).alloc (Nat.le_refl _) (.cells #[.pointer (some ⟨R, 0, none⟩), .pointer none, .pointer (some ⟨wa.heap.size, 0, none⟩), .int .u8 0] 33))
                  have HL1 := Lib.hid (hL.below HBQ.out)
                  have HR1 := Lib.hid (hR.below HBQ.out)
                  have hsz1 := hB1.size
                  have HB1 := Lib.hid (hB1.trans (HBQ.out.mono hsz1))
                  have HQ := Lib.hid (Bk.mk w1 33 #[.pointer (some ⟨R, 0, none⟩), .pointer none, .pointer (some ⟨wa.heap.size, 0, none⟩), .int .u8 0])
                  have HD1 := Lib.hid (HDF.out.below HB1.out)
                  clear hL hR hB1 HBQ
                  go_wp2_with fail
                  have hQs : w1.heap.size < (w1.alloc (.cells #[.pointer (some ⟨R, 0, none⟩), .pointer none, .pointer (some ⟨wa.heap.size, 0, none⟩), .int .u8 0] 33)).heap.size := by simp
                  generalize (w1.alloc (.cells #[.pointer (some ⟨R, 0, none⟩), .pointer none, .pointer (some ⟨wa.heap.size, 0, none⟩), .int .u8 0] 33)) = wq at *
                  generalize w1.heap.size = Q at *
                  have hq1 := HB1.out.size
                  refine (flushZ HL1.out HR1.out HD1.out (by omega) hq1).mono ?_
                  rintro _ wf ⟨rfl, v1, hL2, hF1⟩
                  have HB2 := Lib.hid (HB1.out.trans (fr2 HL1.out hF1 hq1))
                  have HR2 := Lib.hid (frR HL1.out hF1 HR1.out)
                  have HQ2 := Lib.hid (fr1 HL1.out hF1 HQ.out (by decide) (by decide) (by decide))
                  have HD2 := Lib.hid (HDF.out.below HB2.out)
                  have HL2 := Lib.hid hL2
                  clear hL2 hF1 HL1 HR1 HQ HD1 HB1 hQs
                  have q0 : wf.cell? ⟨Q, 0, none⟩ = some (.pointer (some ⟨R, 0, none⟩)) := HQ2.out.cell 0
                  have q1 : wf.cell? ⟨Q, 1, none⟩ = some (.pointer none) := HQ2.out.cell 1
                  have q2 : wf.cell? ⟨Q, 2, none⟩ = some (.pointer (some ⟨wa.heap.size, 0, none⟩)) := HQ2.out.cell 2
                  have q3 : wf.cell? ⟨Q, 3, none⟩ = some (.int .u8 0) := HQ2.out.cell 3
                  have hf1 := HB2.out.size
                  go_wp2_with fail
                  refine (flushZ HL2.out HR2.out HD2.out (by omega) hf1).mono ?_
                  rintro _ wg ⟨rfl, v2, hL3, hF2⟩
                  have HB3 := Lib.hid (HB2.out.trans (fr2 HL2.out hF2 hf1))
                  have HR3 := Lib.hid (frR HL2.out hF2 HR2.out)
                  have HQ3 := Lib.hid (fr1 HL2.out hF2 HQ2.out (by decide) (by decide) (by decide))
                  have HL3 : Hid (Lg wo.heap.size K M X H 0 v2 (msg (.slice p len1 c) a0 ++ msg (.slice p len1 c) a0) 2 wg) := Lib.hid (by rw [List.nil_append] at hL3; exact hL3)
                  clear hL3 hF2 HL2 HR2 HQ2 HD2 HB2 q0 q1 q2 q3
                  have q0 : wg.cell? ⟨Q, 0, none⟩ = some (.pointer (some ⟨R, 0, none⟩)) := HQ3.out.cell 0
                  have q1 : wg.cell? ⟨Q, 1, none⟩ = some (.pointer none) := HQ3.out.cell 1
                  have q2 : wg.cell? ⟨Q, 2, none⟩ = some (.pointer (some ⟨wa.heap.size, 0, none⟩)) := HQ3.out.cell 2
                  have q3 : wg.cell? ⟨Q, 3, none⟩ = some (.int .u8 0) := HQ3.out.cell 3
                  have hg1 := HB3.out.size
                  go_wp2_with fail
                  refine (logged HL3.out HR3.out).mono ?_
                  rintro _ wl ⟨rfl, hL4, hF3⟩
                  have HB4 := Lib.hid (HB3.out.trans (fr2 HL3.out (frX hF3) hg1))
                  obtain ⟨gm, cm, rfl, hT⟩ := hL4.two
                  clear hL4 hF3 HL3 HR3 HQ3 HB3 q0 q1 q2 q3
                  have HD4 := Lib.hid (HDF.out.below HB4.out)
                  have HW4 := Lib.hid (HBR.out.trans (HB4.out.mono hao))
                  have HS4 := Lib.hid (HS3.out.below HW4.out)
                  have HT := Lib.hid hT
                  clear hT
                  have c0 : wl.cell? ⟨gm, 0, none⟩ = some (.slice p len1 c) := HT.out.2 0 _ rfl
                  have c1 : wl.cell? ⟨gm, 1, none⟩ = some (.string ⟨#[]⟩) := HT.out.2 1 _ rfl
                  have c2 : wl.cell? ⟨gm, 2, none⟩ = some .nilIface := HT.out.2 2 _ rfl
                  have c3 : wl.cell? ⟨gm, 3, none⟩ = some (.pointer none) := HT.out.2 3 _ rfl
                  have c4 : wl.cell? ⟨gm, 4, none⟩ = some (.string a0) := HT.out.2 4 _ rfl
                  have c5 : wl.cell? ⟨gm, 5, none⟩ = some (.bool false) := HT.out.2 5 _ rfl
                  have c6 : wl.cell? ⟨gm, 6, none⟩ = some (.int .u8 4) := HT.out.2 6 _ rfl
                  have c7 : wl.cell? ⟨gm, 7, none⟩ = some (.int .u8 0) := HT.out.2 7 _ rfl
                  go_wp2_with fail
                  have HM := fun (W : World) (hb : Below wl.heap.size wl W) => matches13 (p := p) (c := c) (what := a0) (by have := HD4.out.below hb; rw [hzl.out]; exact this) a3 len1 cap3 hzl.out (HS4.out.below hb) (by omega)
                  rw [hzl.out] at HM
                  have HM2 := Lib.hid HM
                  clear HM
                  refine (HM2.out wl (Below.refl _ _)).mono ?_
                  rintro _ wm ⟨rfl, hb1⟩
                  have d0 : wm.cell? ⟨gm, 8, none⟩ = some (.slice p len1 c) := (hb1.cell (p := ⟨gm, 8, none⟩) HT.out.1).trans (HT.out.2 8 _ rfl)
                  have d1 : wm.cell? ⟨gm, 9, none⟩ = some (.string ⟨#[]⟩) := (hb1.cell (p := ⟨gm, 9, none⟩) HT.out.1).trans (HT.out.2 9 _ rfl)
                  have d2 : wm.cell? ⟨gm, 10, none⟩ = some .nilIface := (hb1.cell (p := ⟨gm, 10, none⟩) HT.out.1).trans (HT.out.2 10 _ rfl)
                  have d3 : wm.cell? ⟨gm, 11, none⟩ = some (.pointer none) := (hb1.cell (p := ⟨gm, 11, none⟩) HT.out.1).trans (HT.out.2 11 _ rfl)
                  have d4 : wm.cell? ⟨gm, 12, none⟩ = some (.string a0) := (hb1.cell (p := ⟨gm, 12, none⟩) HT.out.1).trans (HT.out.2 12 _ rfl)
                  have d5 : wm.cell? ⟨gm, 13, none⟩ = some (.bool false) := (hb1.cell (p := ⟨gm, 13, none⟩) HT.out.1).trans (HT.out.2 13 _ rfl)
                  have d6 : wm.cell? ⟨gm, 14, none⟩ = some (.int .u8 4) := (hb1.cell (p := ⟨gm, 14, none⟩) HT.out.1).trans (HT.out.2 14 _ rfl)
                  have d7 : wm.cell? ⟨gm, 15, none⟩ = some (.int .u8 0) := (hb1.cell (p := ⟨gm, 15, none⟩) HT.out.1).trans (HT.out.2 15 _ rfl)
                  clear c0 c1 c2 c3 c4 c5 c6 c7 HT
                  go_wp2_with fail
                  refine (HM2.out wm hb1).mono ?_
                  rintro _ wn ⟨rfl, hb2⟩
                  have hb3 := hb1.trans (hb2.mono hb1.size)
                  have HD5 := Lib.hid (HD4.out.below hb3)
                  have HS5 := Lib.hid (HS4.out.below hb3)
                  have HW5 := Lib.hid (HBA.out.trans ((HW4.out.trans (hb3.mono HW4.out.size)).mono HBA.out.size))
                  clear d0 d1 d2 d3 d4 d5 d6 d7 hb1 hb2 hb3 HM2 HD4 HS4 HW4
                  go_wp2_with fail
                  refine (notesOf HD5.out).mono ?_
                  rintro _ _ ⟨rfl, rfl⟩
                  go_wp2_with fail
                  refine (indOf HD5.out).mono ?_
                  rintro _ _ ⟨rfl, rfl⟩
                  go_wp2_with fail
                  have HW0 : Hid (∃ m, wn = wn.drewN m) := Lib.hid ⟨0, rfl⟩
                  go_loopw [12] (fun i wr => Hid (∃ m, wr = wn.drewN m) ∧ ∃ k : Nat, k ≤ len1 ∧ i = .int .i64 k) (fun i _ => len1 - (intOf i).toNat)
                  case atStart => exact ⟨HW0, 0, Nat.zero_le _, rfl⟩
                  case round =>
                    clear HW0
                    obtain ⟨hwr, kk, hkk, rfl⟩ := hrel
                    obtain ⟨m, hm⟩ := hwr.out
                    subst hm
                    clear hwr
                    by_cases hlt2 : kk < len1
                    · obtain ⟨g, cap', e, hg, _, _, h5, h6⟩ := HD5.out.at kk (by rw [hzl.out]; exact hlt2)
                      obtain ⟨b, off, rfl, hb, hcell⟩ := HS5.out.at (by omega)
                      have hs2 : wn.cell? ⟨b, off + kk, none⟩ = some (.string (z1.getD kk ByteArray.empty)) := hcell kk hlt2
                      have hx : z1[kk]'(by rw [hzl.out]; exact hlt2) = z1.getD kk ByteArray.empty := by
                        rw [List.getD_eq_getElem?_getD, List.getElem?_eq_getElem (by rw [hzl.out]; exact hlt2)]; rfl
                      rw [hx] at h5
                      rw [hzl.out] at e
                      cases e
                      clear hcell hx
                      generalize z1.getD kk ByteArray.empty = x at *
                      have i0 : (0 : Int) ≤ (kk : Int) := Int.natCast_nonneg _
                      have i1 : (kk : Int) < (len1 : Int) := by omega
                      go_wp2
                      go_quiet (fail)
                      go_wp2
                      exact ⟨⟨⟨_, rfl⟩, kk + 1, by omega, by go_num⟩, by simp [intOf]; omega⟩
                    · go_wp2
                      go_ret
                      exact ⟨rfl, HW5.out.trans ⟨rfl, rfl, rfl, Nat.le_refl _, fun _ _ => rfl⟩⟩
    · go_enter Tryz.func3, Tryz.ntmps3
      go_wp2_with fail
      refine (bytes a2 a1 len1 cap1 z1 a0 w w1 w0).mono ?_
      rintro _ _ (⟨rfl, rfl⟩ | ⟨rfl, rfl, _, htot⟩)
      · go_wp2_with fail
        go_ret
        exact ⟨rfl, Below.refl _ _⟩
      · exfalso; omega
  · go_enter Tryz.func3, Tryz.ntmps3
    go_wp2_with fail
    refine (bytes a2 a1 len1 cap1 z1 a0 w w1 w0).mono ?_
    rintro _ _ (⟨rfl, rfl⟩ | ⟨rfl, rfl, _, htot⟩)
    · go_wp2_with fail
      go_ret
      exact ⟨rfl, Below.refl _ _⟩
    · go_wp2_with fail
      go_ret
      exact ⟨rfl, Below.refl _ _⟩
end Go.Proofs.YteamfcjfoihehaaGreatDoor.fnFlushFailureIsRepeatableAndReadOnly
