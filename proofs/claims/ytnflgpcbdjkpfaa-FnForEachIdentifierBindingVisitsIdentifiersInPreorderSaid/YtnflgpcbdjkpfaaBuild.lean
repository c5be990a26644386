/-
  The contract of zzBuildBinding. No condition.
-/
import Derived.Test.YtnflgpcbdjkpfaaTree
namespace Go.Proofs.Ytnflgpcbdjkpfaa
open Go.ChangeShapes Go.WideShapes Go.ChangeAt Go.RowKit
set_option linter.unusedVariables false
set_option linter.unusedSimpArgs false

def BuiltB (code : Nat → Nat) (n f pos : Nat) (w : World) (e : Ending) (w' : World) : Prop :=
  ∃ T q, e = .returned (.tuple #[.agg #[.iface T q, .int .i32 (pos : Int)], .int .i64 (((goF code n f pos).2 : Nat) : Int)]) ∧ Tr w' (fun b => w.heap.size ≤ b) ⟨T, q, pos⟩ (goF code n f pos).1 ∧ Below w.heap.size w w'
theorem addr1 (w : World) (o : Obj) : (w.alloc o).heap.size = w.heap.size + 1 := by simp
/-- The contract for one amount of fuel. -/
def BuildOk (code : Nat → Nat) (n : Nat) (a : Option Addr) (cap f : Nat) : Prop := ∀ (pos : Nat) (w : World), Code w a n code → pos < n → n ≤ pos + f → Calls Try.prog 7 #[.slice a n cap, .int .i64 (pos : Int)] w (BuiltB code n f pos w)
set_option maxRecDepth 100000 in
set_option maxHeartbeats 4000000 in
theorem build0 (code : Nat → Nat) (n : Nat) (a : Option Addr) (cap f : Nat) (hn : n ≤ 65536) (pos : Nat) (w : World) (hc : Code w a n code) (hp : pos < n) (h0 : code pos % 4 = 0) : Calls Try.prog 7 #[.slice a n cap, .int .i64 (pos : Int)] w (BuiltB code n (f + 1) pos w) := by
  obtain ⟨b, off, rfl, hlt, hcell⟩ := hc.at_ (by omega)
  have hcur := hcell pos hp
  have hlt2 := hc.lt pos hp
  have HG : Hid (goF code n (f + 1) pos = ([], pos + 1)) := by show _ = _; unfold goF; rw [if_pos h0]
  generalize code pos = c at *
  have e4 : ((c : Int) % 4) = 0 := by omega
  clear hcell hc h0
  go_enter Try.func7, Try.ntmps7
  go_wp2
  refine bodyPost_ret (v := .tuple #[.agg #[.iface 50 (.pointer (some ⟨w.heap.size + 1 + 1, 0, none⟩)), .int .i32 (pos : Int)], .int .i64 ((pos : Int) + 1)]) (by simp [results, Try.results7, go_sem]; try rfl) rfl ⟨50, .pointer (some ⟨w.heap.size + 1 + 1, 0, none⟩), ?_, ?_, by go_grown⟩
  · rw [HG.out]; rfl
  · rw [HG.out]; exact .miss _ _
set_option maxRecDepth 100000 in
set_option maxHeartbeats 4000000 in
theorem build1 (code : Nat → Nat) (n : Nat) (a : Option Addr) (cap f : Nat) (hn : n ≤ 65536) (pos : Nat) (w : World) (hc : Code w a n code) (hp : pos < n) (h0 : code pos % 4 = 1) : Calls Try.prog 7 #[.slice a n cap, .int .i64 (pos : Int)] w (BuiltB code n (f + 1) pos w) := by
  obtain ⟨b, off, rfl, hlt, hcell⟩ := hc.at_ (by omega)
  have hcur := hcell pos hp
  have hlt2 := hc.lt pos hp
  have HG : Hid (goF code n (f + 1) pos = ([pos], pos + 1)) := by show _ = _; unfold goF; rw [if_neg (by omega), if_pos h0]
  generalize code pos = c at *
  have e4 : ((c : Int) % 4) = 1 := by omega
  clear hcell hc h0
  go_enter Try.func7, Try.ntmps7
  go_wp2
  refine bodyPost_ret (v := .tuple #[.agg #[.iface 36 (.pointer (some ⟨w.heap.size + 1 + 1, 0, none⟩)), .int .i32 (pos : Int)], .int .i64 ((pos : Int) + 1)]) (by simp [results, Try.results7, go_sem]; try rfl) rfl ⟨36, .pointer (some ⟨w.heap.size + 1 + 1, 0, none⟩), ?_, ?_, by go_grown⟩
  · rw [HG.out]; rfl
  · rw [HG.out]
    refine .id (w.heap.size + 1 + 1) pos ?_ (by omega)
    have := Bk.mk ((w.alloc (.cells #[.iface 36 (.pointer (some ⟨w.heap.size + 1 + 1, 0, none⟩)), .int .i32 (pos : Int)] 30)).alloc (.cells #[.int .i32 (pos : Int)] 28)) 41 #[.int .u32 0, .int .u32 (pos : Int)]
    rw [addr1, addr1] at this
    exact this
theorem newsI (w : World) (o : Obj) (E : TypeId) (l : List Value) : ∀ j u, l[j]? = some u → ((w.alloc o).alloc (.cells l.toArray E)).cell? ((⟨w.heap.size + 1, 0, none⟩ : Addr).add j) = some u := by
  have := World.news_of_block (w := (w.alloc o).alloc (.cells l.toArray E)) (B := (w.alloc o).heap.size) (cs := l.toArray) (t := E) (fr := (0, 0)) (heap_alloc_new (w.alloc o) _)
  rw [addr1] at this
  simpa using this
theorem one2 (x : Bd) : ∀ u ∈ itemA x, u.oneCell' = true := by simp [itemA, Value.oneCell']
theorem one3 (x : Bd) : ∀ u ∈ itemO x, u.oneCell' = true := by simp [itemO, Value.oneCell']
theorem LS.finish2 {w wr : World} {pos : Nat} {kids : List (Bd × List Nat)} {v : Value} (h : LS 60 5 itemA w wr pos kids v) (hl : kids.length ≤ 3) :
    Tr (((wr.setCell ⟨w.heap.size, 0, none⟩ (.iface 61 (.pointer (some ⟨wr.heap.size, 0, none⟩)))).setCell ⟨w.heap.size, 1, none⟩ (.int .i32 (pos : Int))).alloc (.cells #[v, .int .i32 0, .bool false, .bool false] 63)) (fun b => w.heap.size ≤ b) ⟨61, .pointer (some ⟨wr.heap.size, 0, none⟩), pos⟩ (kids.flatMap (·.2)) := by
  have hf : Fr (fun k => k = w.heap.size) wr (((wr.setCell ⟨w.heap.size, 0, none⟩ (.iface 61 (.pointer (some ⟨wr.heap.size, 0, none⟩)))).setCell ⟨w.heap.size, 1, none⟩ (.int .i32 (pos : Int))).alloc (.cells #[v, .int .i32 0, .bool false, .bool false] 63)) :=
    (((Fr.refl (fun k => k = w.heap.size) wr).setCell (p := ⟨w.heap.size, 0, none⟩) (fun _ => rfl) _).setCell (p := ⟨w.heap.size, 1, none⟩) (fun _ => rfl) _).alloc _
  have hB := Bk.mk ((wr.setCell ⟨w.heap.size, 0, none⟩ (.iface 61 (.pointer (some ⟨wr.heap.size, 0, none⟩)))).setCell ⟨w.heap.size, 1, none⟩ (.int .i32 (pos : Int))) 63 #[v, .int .i32 0, .bool false, .bool false]
  rw [show ((wr.setCell ⟨w.heap.size, 0, none⟩ (.iface 61 (.pointer (some ⟨wr.heap.size, 0, none⟩)))).setCell ⟨w.heap.size, 1, none⟩ (.int .i32 (pos : Int))).heap.size = wr.heap.size by simp] at hB
  refine .arr wr.heap.size pos w.heap.size v kids hl hB h.below.size (own_fr h.own hf fun g hg => ?_) (fun g hg => (own_lt h.own g hg).1) fun k hk => (h.tr k hk).fr hf fun b hT hP => ⟨?_, hP.1⟩
  · rintro rfl
    exact own_ne h.own h.res (by decide) hg
  · rintro rfl
    obtain ⟨cs, t, hh, ht⟩ := hT
    have := ne_of_types hh h.res (by rcases ht with rfl | rfl | rfl | rfl | rfl <;> decide)
    exact this rfl
theorem LS.finish3 {w wr : World} {pos : Nat} {kids : List (Bd × List Nat)} {v : Value} (h : LS 66 11 itemO w wr pos kids v) (hl : kids.length ≤ 3) :
    Tr (((wr.setCell ⟨w.heap.size, 0, none⟩ (.iface 67 (.pointer (some ⟨wr.heap.size, 0, none⟩)))).setCell ⟨w.heap.size, 1, none⟩ (.int .i32 (pos : Int))).alloc (.cells #[v, .int .i32 0, .bool false] 69)) (fun b => w.heap.size ≤ b) ⟨67, .pointer (some ⟨wr.heap.size, 0, none⟩), pos⟩ (kids.flatMap (·.2)) := by
  have hf : Fr (fun k => k = w.heap.size) wr (((wr.setCell ⟨w.heap.size, 0, none⟩ (.iface 67 (.pointer (some ⟨wr.heap.size, 0, none⟩)))).setCell ⟨w.heap.size, 1, none⟩ (.int .i32 (pos : Int))).alloc (.cells #[v, .int .i32 0, .bool false] 69)) :=
    (((Fr.refl (fun k => k = w.heap.size) wr).setCell (p := ⟨w.heap.size, 0, none⟩) (fun _ => rfl) _).setCell (p := ⟨w.heap.size, 1, none⟩) (fun _ => rfl) _).alloc _
  have hB := Bk.mk ((wr.setCell ⟨w.heap.size, 0, none⟩ (.iface 67 (.pointer (some ⟨wr.heap.size, 0, none⟩)))).setCell ⟨w.heap.size, 1, none⟩ (.int .i32 (pos : Int))) 69 #[v, .int .i32 0, .bool false]
  rw [show ((wr.setCell ⟨w.heap.size, 0, none⟩ (.iface 67 (.pointer (some ⟨wr.heap.size, 0, none⟩)))).setCell ⟨w.heap.size, 1, none⟩ (.int .i32 (pos : Int))).heap.size = wr.heap.size by simp] at hB
  refine .obj wr.heap.size pos w.heap.size v kids hl hB h.below.size (own_fr h.own hf fun g hg => ?_) (fun g hg => (own_lt h.own g hg).1) fun k hk => (h.tr k hk).fr hf fun b hT hP => ⟨?_, hP.1⟩
  · rintro rfl
    exact own_ne h.own h.res (by decide) hg
  · rintro rfl
    obtain ⟨cs, t, hh, ht⟩ := hT
    have := ne_of_types hh h.res (by rcases ht with rfl | rfl | rfl | rfl | rfl <;> decide)
    exact this rfl
set_option maxRecDepth 100000 in
set_option maxHeartbeats 16000000 in
theorem build2 (code : Nat → Nat) (n : Nat) (a : Option Addr) (cap f : Nat) (hn : n ≤ 65536) (ih : BuildOk code n a cap f) (pos : Nat) (w : World) (hc : Code w a n code) (hp : pos < n) (hf : n ≤ pos + (f + 1)) (h0 : code pos % 4 = 2) : Calls Try.prog 7 #[.slice a n cap, .int .i64 (pos : Int)] w (BuiltB code n (f + 1) pos w) := by
  obtain ⟨b, off, rfl, hlt, hcell⟩ := hc.at_ (by omega)
  have hcur := hcell pos hp
  have hlt2 := hc.lt pos hp
  have HG : Hid (goF code n (f + 1) pos = kidsF (goF code n f) n (ar (code pos)) (pos + 1)) := by show _ = _; unfold goF; rw [if_neg (by omega), if_neg (by omega)]
  have HND := Lib.hid (fun p (hp : p < n) (hq : n ≤ p + f) => node_of code n f p hp hq)
  have har : ar (code pos) ≤ 3 := by unfold ar; split <;> omega
  have HAR := Lib.hid (arity (code pos) hlt2)
  generalize code pos = c at *
  generalize ar c = d at *
  have e4 : ((c : Int) % 4) = 2 := by omega
  have IH := Lib.hid ih
  have HC := Lib.hid hc
  have HST := Lib.hid (LS.start 60 5 itemA w pos)
  obtain ⟨i0, hi, hz0, hz1, hz2⟩ := info_parts info60
  have HI := Lib.hid hi
  have HZ0 := Lib.hid hz0
  have HZ1 := Lib.hid hz1
  have HZ2 := Lib.hid hz2
  clear hcell hc h0 ih hi hz0 hz1 hz2
  go_enter Try.func7, Try.ntmps7
  go_wp2
  go_loopw [8, 9, 10] (fun s8 s9 s10 wr => ∃ (k next : Nat) (kids : List (Bd × List Nat)), k ≤ d ∧ s10 = .int .i64 k ∧ s8 = .int .i64 next ∧ pos + 1 ≤ next ∧ next ≤ n ∧ kids.length = k ∧ LS 60 5 itemA w wr pos kids s9 ∧
      kidsF (goF code n f) n d (pos + 1) = (kids.flatMap (·.2) ++ (kidsF (goF code n f) n (d - k) next).1, (kidsF (goF code n f) n (d - k) next).2)) (fun _ _ s10 _ => d - (intOf s10).toNat)
  case atStart => exact ⟨0, pos + 1, [], Nat.zero_le _, rfl, by go_num, Nat.le_refl _, by omega, rfl, HST.out, by simp⟩
  case round =>
    clear HST e4
    obtain ⟨k, next, kids, hk, rfl, rfl, hn1, hn2, hkl, hls, hrest⟩ := hrel
    have HLS := Lib.hid hls
    have HREST := Lib.hid hrest
    have HKL := Lib.hid hkl
    clear hls hrest hkl
    by_cases hgo : k < d ∧ next < n
    · obtain ⟨hkd, hnn⟩ := hgo
      have HN := Lib.hid (HND.out next hnn (by omega))
      have HK : Hid (kidsF (goF code n f) n (d - k) next = ((goF code n f next).1 ++ (kidsF (goF code n f) n (d - (k + 1)) (goF code n f next).2).1, (kidsF (goF code n f) n (d - (k + 1)) (goF code n f next).2).2)) := by
        show _ = _
        rw [show d - k = (d - (k + 1)) + 1 by omega]
        conv => lhs; unfold kidsF
        rw [if_pos hnn]
      have hng := HN.out.gt
      have hnl := HN.out.le
      have HC2 := Lib.hid (HC.out.below HLS.out.below)
      obtain ⟨p9, c9, hv9⟩ := own_form HLS.out.own
      have HIC := Lib.hid (IH.out next wr HC2.out hnn (by omega))
      unfold BuiltB at HIC
      generalize hgn : goF code n f next = gn at *
      obtain ⟨ln, after⟩ := gn
      dsimp only at hng hnl
      have HGN := Lib.hid hgn
      clear hgn
      subst hv9
      have hkk : kids.length ≤ 3 := by rw [HKL.out]; omega
      go_wp2_with (first
        | (go_at_call 14; (with_reducible refine (HAR.out wr).mono ?_); rintro _ _ ⟨rfl, rfl⟩)
        | (go_at_call 7; (with_reducible refine HIC.out.mono ?_); rintro _ w1 ⟨T, q, rfl, htr, hb1⟩; have HTR := Lib.hid htr; have HB1 := Lib.hid hb1; have HL1 := Lib.hid (HLS.out.later hb1); clear htr hb1)
        | (refine wpList_append_lies ((w1.alloc (.cells #[.iface T q, .int .i32 (next : Int)] 30)).alloc (.cells (itemA ⟨T, q, next⟩).toArray 60)) rfl (.tmp 100) (.tmp 105) 53 rfl w.heap.size 60 i0 (.agg #[.nilIface, .int .i32 0, .nilIface, .int .i32 0, .int .i32 0]) 5 56 Try.underlying53 HI.out HZ0.out HZ1.out HZ2.out rfl (by decide) (.slice p9 kids.length c9) kids.length (kids.flatMap fun k => itemA k.1) rfl ((HL1.out.own.alloc _).alloc _) ⟨w1.heap.size + 1, 0, none⟩ 1 1 (itemA ⟨T, q, next⟩) rfl rfl (newsI w1 _ 60 (itemA ⟨T, q, next⟩)) (one2 ⟨T, q, next⟩) (by decide) (by unfold maxLen; omega) (by omega) (by have := HLS.out.below.size; have := HB1.out.size; simp; omega) (w1.heap.size + 1 + 1) (by simp) ?_; intro g cap' w4 hown hgr hat hlt4; have HNX := Lib.hid (HLS.out.step HB1.out HTR.out (.inl rfl) hown hgr hat); clear hown hgr hat))
      refine ⟨⟨k + 1, after, _, by omega, by go_num, rfl, by omega, by omega, by simp [HKL.out], HNX.out, ?_⟩, by simp [intOf]; omega⟩
      have e1 := HREST.out
      rw [HK.out] at e1
      rw [e1]
      simp
    · have HX : Hid ((goF code n (f + 1) pos).1 = kids.flatMap (·.2) ∧ (goF code n (f + 1) pos).2 = next) := by
        have e1 := HREST.out
        have e2 : kidsF (goF code n f) n (d - k) next = ([], next) := by
          cases hd : d - k with
          | zero => rfl
          | succ m => unfold kidsF; rw [if_neg (by omega)]
        rw [e2] at e1
        show _ ∧ _
        rw [HG.out, e1]
        exact ⟨by simp, rfl⟩
      obtain ⟨p9, c9, hv9⟩ := own_form HLS.out.own
      subst hv9
      have r0 : wr.cell? ⟨w.heap.size, 0, none⟩ = some .nilIface := HLS.out.res.cell 0
      have r1 : wr.cell? ⟨w.heap.size, 1, none⟩ = some (.int .i32 0) := HLS.out.res.cell 1
      have f0 := HLS.out.res.free 0
      have f1 := HLS.out.res.free 1
      have lc : wr.cell? ⟨w.heap.size + 1, 0, none⟩ = some (.int .i32 (pos : Int)) := HLS.out.loc.cell 0
      have lr := HLS.out.res.lt
      have ll := HLS.out.loc.lt
      have HB0 : Hid (Below w.heap.size w (((wr.setCell ⟨w.heap.size, 0, none⟩ (.iface 61 (.pointer (some ⟨wr.heap.size, 0, none⟩)))).setCell ⟨w.heap.size, 1, none⟩ (.int .i32 (pos : Int))).alloc (.cells #[.slice p9 kids.length c9, .int .i32 0, .bool false, .bool false] 63))) := ((HLS.out.below.setCell (Nat.le_refl _) _).setCell (Nat.le_refl _) _).alloc (by simpa using HLS.out.below.size) _
      by_cases hkd : k < d
      · have hnn : ¬ next < n := fun q => hgo ⟨hkd, q⟩
        clear hgo
        go_wp2_with (first | (go_at_call 14; (with_reducible refine (HAR.out wr).mono ?_); rintro _ _ ⟨rfl, rfl⟩))
        refine bodyPost_ret (v := .tuple #[.agg #[.iface 61 (.pointer (some ⟨wr.heap.size, 0, none⟩)), .int .i32 (pos : Int)], .int .i64 (next : Int)]) (by simp [results, Try.results7, go_sem, World.cell?_alloc_past, World.cell?_setCell_other, World.cell?_setCell_same _ _ _ r0, World.cell?_setCell_same _ _ _ r1, r0, r1, lr]; try rfl) rfl ⟨61, .pointer (some ⟨wr.heap.size, 0, none⟩), by rw [HX.out.2], by rw [HX.out.1]; exact HLS.out.finish2 (by rw [HKL.out]; omega), HB0.out⟩
      · clear hgo
        go_wp2_with (first | (go_at_call 14; (with_reducible refine (HAR.out wr).mono ?_); rintro _ _ ⟨rfl, rfl⟩))
        refine bodyPost_ret (v := .tuple #[.agg #[.iface 61 (.pointer (some ⟨wr.heap.size, 0, none⟩)), .int .i32 (pos : Int)], .int .i64 (next : Int)]) (by simp [results, Try.results7, go_sem, World.cell?_alloc_past, World.cell?_setCell_other, World.cell?_setCell_same _ _ _ r0, World.cell?_setCell_same _ _ _ r1, r0, r1, lr]; try rfl) rfl ⟨61, .pointer (some ⟨wr.heap.size, 0, none⟩), by rw [HX.out.2], by rw [HX.out.1]; exact HLS.out.finish2 (by rw [HKL.out]; omega), HB0.out⟩
end Go.Proofs.Ytnflgpcbdjkpfaa
