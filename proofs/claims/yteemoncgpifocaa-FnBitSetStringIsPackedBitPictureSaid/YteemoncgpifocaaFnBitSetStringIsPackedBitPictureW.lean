/-
  What the law FnBitSetStringIsPackedBitPicture does, for every input. No condition.
-/
import Derived.Test.YteemoncgpifocaaBits
import Derived.Deep.RegionHeld3
namespace Go.Proofs.Yteemoncgpifocaa.fnBitSetStringIsPackedBitPicture
open Go.ChangeShapes Go.WideShapes Go.ChangeAt Go.RowKit
set_option linter.unusedVariables false

/-- Is p among the first k? -/
def mk (zs : List Int) (k : Nat) : Nat → Bool := fun p => (zs.take k).contains (p : Int)
theorem mk_step (zs : List Int) (k x : Nat) (hk : k < zs.length) (hx : zs.getD k 0 = (x : Int)) : mk zs (k + 1) = upd (mk zs k) x := by
  funext p
  have e : zs[k] = (x : Int) := by rw [← hx, List.getD_eq_getElem?_getD, List.getElem?_eq_getElem hk]; rfl
  simp only [mk, upd]
  rw [List.take_succ_eq_append_getElem hk, e, Bool.eq_iff_iff]
  simp only [List.contains_iff_mem, List.mem_append, List.mem_singleton, Bool.or_eq_true, decide_eq_true_eq]
  rw [show ((p : Int) = x) = (p = x) from propext Int.natCast_inj]
theorem mk_zero (zs : List Int) : mk zs 0 = fun _ => false := by funext p; simp [mk]
theorem mk_off (zs : List Int) (k n : Nat) (h : ∀ i, i < zs.length → zs.getD i 0 < (n : Int)) (p : Nat) (hp : n ≤ p) : mk zs k p = false := by
  rw [Bool.eq_false_iff]
  intro q
  simp [mk] at q
  obtain ⟨i, hi, e⟩ := List.mem_iff_getElem.1 (List.mem_of_mem_take q)
  have := h i hi
  rw [List.getD_eq_getElem?_getD, List.getElem?_eq_getElem hi] at this
  simp at this
  omega

structure Inv (wa wr : World) (B V len : Nat) (S : Nat → Bool) (R : Nat) : Prop where
  p : Packed wr B len S
  v : Own wr V 1 (fun _ => .slice (some ⟨B, 0, none⟩) len len)
  r : Own wr R 1 (fun _ => .slice none 0 0)
  b : Below wa.heap.size wa wr
theorem Inv.drew {wa wr : World} {B V R len : Nat} {S : Nat → Bool} (h : Inv wa wr B V len S R) : Inv wa wr.drew B V len S R := ⟨Own.drew h.p, h.v.drew, h.r.drew, h.b.drew⟩
theorem heldC {w wr : World} {B V R len b o : Nat} {v : Value} {S : Nat → Bool} (hb : b < w.heap.size) (hc : w.cell? ⟨b, o, none⟩ = some v) (h : Inv w wr B V len S R) : wr.cell? ⟨V, 0, none⟩ = some (.slice (some ⟨B, 0, none⟩) len len) ∧ wr.cell? ⟨b, o, none⟩ = some v := ⟨h.v.cell 0 (by omega), by rw [h.b.cell (p := ⟨b, o, none⟩) hb]; exact hc⟩
set_option maxRecDepth 100000 in
set_option maxHeartbeats 2000000 in
theorem build (n : Nat) (a1 : Option Addr) (len1 cap1 : Nat) (z1 : List Int) (w : World) (w1 : IsInts .u32 w a1 len1 cap1 z1) (hn : n ≤ 65536) (hl : len1 ≤ 65536) (hz : ∀ i, i < len1 → z1.getD i 0 < (n : Int)) :
    Calls Try.prog 15 #[.int .u32 n, .slice a1 len1 cap1] w fun e w' => ∃ B, e = .returned (.agg #[.slice (some ⟨B, 0, none⟩) ((n + 7) / 8) ((n + 7) / 8)]) ∧ Packed w' B ((n + 7) / 8) (mk z1 len1) ∧ Below w.heap.size w w' := by
  have hl1 : z1.length = len1 := by have := w1.1.1; rwa [List.length_map] at this
  have hnew := fun u => newBitSet n u hn
  have hle : (n + 7) / 8 ≤ 8192 := by omega
  have hcov : n ≤ 8 * ((n + 7) / 8) := by omega
  generalize (n + 7) / 8 = len at *
  have W1 := Lib.hid w1
  have HN := Lib.hid hnew
  have HZ := Lib.hid hz
  clear w1 hnew hz
  go_enter Try.func15, Try.ntmps15
  go_wp2_with (first
    | (go_at_call 8; (with_reducible refine (HN.out _).mono ?_); rintro _ wb ⟨B, rfl, hp, hbb, hB⟩)
    | go_in)
  have e1 : (w.alloc (.cells #[.slice none 0 0] 28)).heap.size = w.heap.size + 1 := by simp
  rw [e1] at hbb hB
  have hBb : B < wb.heap.size := hp.size
  have hWB := hbb.size
  rw [e1] at hWB
  have HI : Inv w (wb.alloc (.cells #[.slice (some ⟨B, 0, none⟩) len len] 28)) B wb.heap.size len (mk z1 0) w.heap.size :=
    ⟨by rw [mk_zero]; exact Own.alloc hp _, Own.one (w := wb.alloc (.cells #[.slice (some ⟨B, 0, none⟩) len len] 28)) wb.heap.size (.slice (some ⟨B, 0, none⟩) len len) (by simp) (fun j => by simp [go_sem]) (by simp [go_sem]),
      Own.alloc (Own.below (Own.one (w := w.alloc (.cells #[.slice none 0 0] 28)) w.heap.size (.slice none 0 0) (by simp) (fun j => by simp [go_sem]) (by simp [go_sem])) hbb (by omega)) _,
      ((((Below.refl _ w).alloc (Nat.le_refl _) _).trans (hbb.mono (by omega))).alloc (by omega) _)⟩
  have HI0 := Lib.hid HI
  clear HI hp hbb e1
  generalize hVe : wb.heap.size = V at *
  go_loopw [6] (fun i wr => ∃ k : Nat, k ≤ len1 ∧ i = .int .i64 k ∧ Inv w wr B V len (mk z1 k) w.heap.size) (fun i _ => len1 - (intOf i).toNat)
  case atStart => exact ⟨0, Nat.zero_le _, rfl, HI0.out⟩
  case round =>
    clear HI0
    obtain ⟨k, hk, rfl, hi⟩ := hrel
    by_cases hlt : k < len1
    · obtain ⟨b, off, rfl, hb, hcell⟩ := W1.out.at (by omega)
      obtain ⟨x, hx, hwf⟩ := nat_u32 (W1.out.wf k hlt)
      have hcur := hcell k hlt
      have hxn := HZ.out k hlt
      rw [hx] at hcur hxn
      have HX := Lib.hid hx
      have hh := heldC hb hcur hi
      have HS := Lib.hid (fun wx h => setBitP B len x (mk z1 k) wx h (by omega) (by omega) hle)
      have hwr := Lib.hid (show IntKind.u64.wrap (x : Int) = x by simp [IntKind.wrap, IntKind.signed, IntKind.bits]; omega)
      clear hx hcell
      go_wp2
      go_region_held3 (fun w' => w'.cell? ⟨V, 0, none⟩ = some (.slice (some ⟨B, 0, none⟩) len len) ∧ w'.cell? ⟨b, off + k, none⟩ = some (.int .u32 x)) (first | assumption | exact heldC hb hcur hi.drew) (first | (go_at_call 9; rw [hwr.out]; (with_reducible refine (HS.out _ hi.drew.p).mono ?_); rintro e w' ⟨rfl, hkeep, hq2⟩; have hi3 : Inv w w' B V len (upd (mk z1 k) x) w.heap.size := ⟨hq2, hkeep.1 V _ _ (by omega) hi.drew.v, hkeep.1 _ _ _ (by omega) hi.drew.r, hi.drew.b.trans (hkeep.2 _ (by omega) hi.drew.b.size)⟩; have hS2 := heldC hb hcur hi3))
      go_wp2
      refine ⟨⟨k + 1, by omega, by go_num, ?_⟩, by simp [intOf]; omega⟩
      rw [mk_step z1 k x (by omega) HX.out]
      exact hi3
    · have : k = len1 := by omega
      subst this
      have c1 := hi.v.cell 0 (by omega)
      have c2 : wr.cell? ⟨w.heap.size, 0, none⟩ = some (.slice none 0 0) := hi.r.cell 0 (by omega)
      have f2 := hi.r.free 0
      go_wp2
      refine bodyPost_ret (by simp [results, Try.results15, go_sem, World.cell?_setCell_same _ _ _ c2]) rfl ⟨B, rfl, ?_, ?_⟩
      · exact Own.other hi.p _ (by simp; omega) _
      · exact hi.b.setCell (Nat.le_refl _) _

set_option maxRecDepth 100000 in
set_option maxHeartbeats 2000000 in
theorem marks (n : Nat) (a1 : Option Addr) (len1 cap1 : Nat) (z1 : List Int) (w : World) (w1 : IsInts .u32 w a1 len1 cap1 z1) (hn : n ≤ 65536) (hl : len1 ≤ 65536) (hz : ∀ i, i < len1 → z1.getD i 0 < (n : Int)) :
    Calls Try.prog 17 #[.int .u32 n, .slice a1 len1 cap1] w fun e w' => ∃ M, e = .returned (.slice (some ⟨M, 0, none⟩) n n) ∧ Own w' M n (fun p => .bool (mk z1 len1 p)) ∧ Below w.heap.size w w' := by
  have hl1 : z1.length = len1 := by have := w1.1.1; rwa [List.length_map] at this
  have hmk := mk30 .i64 n (by omega)
  have W1 := Lib.hid w1
  have HZ := Lib.hid hz
  have HM := Lib.hid (Own.made w n (.bool false) 4)
  clear w1 hz
  go_enter Try.func17, Try.ntmps17
  go_wp2
  clear hmk
  go_loopw [6] (fun i wr => ∃ k : Nat, k ≤ len1 ∧ i = .int .i64 k ∧ Own wr w.heap.size n (fun p => .bool (mk z1 k p)) ∧ Below w.heap.size w wr) (fun i _ => len1 - (intOf i).toNat)
  case atStart => exact ⟨0, Nat.zero_le _, rfl, by rw [mk_zero]; exact HM.out, by go_grown⟩
  case round =>
    clear HM
    obtain ⟨k, hk, rfl, hi, hbl⟩ := hrel
    by_cases hlt : k < len1
    · obtain ⟨b, off, rfl, hb, hcell⟩ := W1.out.at (by omega)
      obtain ⟨x, hx, hwf⟩ := nat_u32 (W1.out.wf k hlt)
      have hcur : wr.cell? ⟨b, off + k, none⟩ = some (.int .u32 (z1.getD k 0)) := by rw [hbl.cell (p := ⟨b, off + k, none⟩) hb]; exact hcell k hlt
      have hxn := HZ.out k hlt
      rw [hx] at hcur hxn
      have HX := Lib.hid hx
      have cm := hi.cell x (by omega)
      have fm := hi.free x
      clear hx hcell
      go_wp2
      refine ⟨⟨k + 1, by omega, by go_num, ?_, hbl.setCell (p := ⟨w.heap.size, x, none⟩) (Nat.le_refl _) _⟩, by simp [intOf]; omega⟩
      rw [mk_step z1 k x (by omega) HX.out]
      exact hi.set x (by omega) _ _ (by simp [upd]) (fun j hj e => by simp [upd, e])
    · have : k = len1 := by omega
      subst this
      go_wp2
      go_ret
      exact ⟨_, rfl, hi, hbl⟩
theorem _root_.Go.Proofs.Yteemoncgpifocaa.IsInts.below {k : IntKind} {w w' : World} {a : Option Addr} {len cap : Nat} {zs : List Int} (h : IsInts k w a len cap zs) (hb : Below w.heap.size w w') : IsInts k w' a len cap zs := ⟨h.1.below hb, h.2⟩
theorem string' (B len : Nat) (S : Nat → Bool) (w : World) (h : Packed w B len S) :
    Calls Try.prog 16 #[.agg #[.slice (some ⟨B, 0, none⟩) len len]] w fun e w' => e = .returned (.string (str len S)) ∧ Below w.heap.size w w' :=
  (string B len S w h).mono fun _ _ q => ⟨q.1, by rw [q.2]; exact (Below.refl _ _).alloc (Nat.le_refl _) _⟩
def til (S : Nat → Bool) (p : Nat) : Nat → Bool := fun x => decide (x < p) && S x
theorem til_zero (S : Nat → Bool) : til S 0 = fun _ => false := by funext x; simp [til]
theorem til_on (S : Nat → Bool) (p : Nat) (h : S p = true) : til S (p + 1) = upd (til S p) p := by
  funext x
  simp only [til, upd]
  by_cases e : x = p
  · subst e; simp [h]
  · by_cases l : x < p
    · simp [l, e, show x < p + 1 by omega]
    · simp [l, e, show ¬ x < p + 1 by omega]
theorem til_off (S : Nat → Bool) (p : Nat) (h : S p = false) : til S (p + 1) = til S p := by
  funext x
  simp only [til]
  by_cases e : x = p
  · subst e; simp [h]
  · by_cases l : x < p
    · simp [l, show x < p + 1 by omega]
    · simp [l, show ¬ x < p + 1 by omega]
set_option maxRecDepth 100000 in
set_option maxHeartbeats 2000000 in
theorem main (n : Nat) (a1 : Option Addr) (len1 cap1 : Nat) (z1 : List Int) (w : World) (w1 : IsInts .u32 w a1 len1 cap1 z1) (hn : n ≤ 65536) (hl : len1 ≤ 65536) :
    Calls Try.prog 5 #[.int .u32 n, .slice a1 len1 cap1] w fun e w' => e = .returned (.bool true) ∧ Below w.heap.size w w' := by
  have hl1 : z1.length = len1 := by have := w1.1.1; rwa [List.length_map] at this
  have W1 := Lib.hid w1
  have hd : ((n : Int) + 7) / 8 = (((n + 7) / 8 : Nat) : Int) := by omega
  have hle : (n + 7) / 8 ≤ 8192 := by omega
  have hcov : n ≤ 8 * ((n + 7) / 8) := by omega
  have hcov2 : 8 * ((n + 7) / 8) ≤ n + 7 := by omega
  have hmk := mk26 .i64 ((n + 7) / 8) (by omega)
  have HB := Lib.hid (fun u a c h hz => build n a len1 c z1 u h hn hl hz)
  clear w1
  generalize (n + 7) / 8 = len at *
  go_enter Try.func5, Try.ntmps5
  go_wp2
  go_loopw [5] (fun i wr => w = wr ∧ ∃ k : Nat, k ≤ len1 ∧ i = .int .i64 k ∧ ∀ i, i < k → z1.getD i 0 < (n : Int)) (fun i _ => len1 - (intOf i).toNat)
  case atStart => exact ⟨by trivial, 0, Nat.zero_le _, rfl, by omega⟩
  case round =>
    obtain ⟨rfl, k, hk, rfl, hzk⟩ := hrel
    have HZ := Lib.hid hzk
    clear hzk
    by_cases hlt : k < len1
    · obtain ⟨b, off, rfl, hb, hcell⟩ := W1.out.at (by omega)
      obtain ⟨x, hx, hwf⟩ := nat_u32 (W1.out.wf k hlt)
      have hcur := hcell k hlt
      rw [hx] at hcur
      have HX := Lib.hid hx
      clear hx hcell hmk
      by_cases hxn : x < n
      · go_wp2
        refine ⟨⟨by trivial, k + 1, by omega, by go_num, fun i hi => ?_⟩, by simp [intOf]; omega⟩
        by_cases e : i = k
        · subst e; rw [HX.out]; omega
        · exact HZ.out i (by omega)
      · go_wp2
        go_ret
        exact ⟨rfl, Below.refl _ _⟩
    · have : k = len1 := by omega
      subst this
      go_wp2_with (first
        | (go_at_call 14; (with_reducible refine (copyU32 a1 k cap1 z1 w W1.out (by omega)).mono ?_); rintro _ wa ⟨a2, cap2, rfl, hq, hnil, hba⟩; have HQ := Lib.hid hq; clear hq)
        | (go_at_call 15; (with_reducible refine (HB.out wa a2 cap2 HQ.out HZ.out).mono ?_); rintro _ wb ⟨B, rfl, hp, hbb⟩; have HP := Lib.hid hp; clear hp)
        | (go_at_call 16; (with_reducible refine (string' B len _ wb HP.out).mono ?_); rintro _ wc ⟨rfl, hbc⟩; have HQ2 := Lib.hid (IsInts.below HQ.out (hbb.trans (hbc.mono hbb.size))))
        | (go_at_call 17; (with_reducible refine (marks n a2 k cap2 z1 wc HQ2.out hn hl HZ.out).mono ?_); rintro _ wd ⟨M, rfl, hm, hbd⟩))
      have hoff := mk_off z1 k n (fun i hi => HZ.out i (by omega))
      have hstr : str len (mk z1 k) = str len (til (mk z1 k) n) := str_congr fun p _ => by
        simp only [til]
        by_cases l : p < n
        · simp [l]
        · simp [l]; exact hoff p (by omega)
      have HSTR := Lib.hid hstr
      have hbw : Below w.heap.size w wd := hba.trans ((hbb.mono hba.size).trans ((hbc.mono (Nat.le_trans hba.size hbb.size)).trans (hbd.mono (Nat.le_trans hba.size (Nat.le_trans hbb.size hbc.size)))))
      have hMd : M < wd.heap.size := hm.size
      have HD := Lib.hid (Own.made wd len (.int .u8 0) 5)
      have HM := Lib.hid hm
      have HBW := Lib.hid hbw
      clear hstr hoff hm hbw hba hbb hbc hbd HB HP HZ HQ HQ2 W1 hmk
      generalize mk z1 k = S at *
      go_loopw [9] (fun i wr => ∃ p : Nat, p ≤ n ∧ i = .int .i64 p ∧ Packed wr wd.heap.size len (til S p) ∧ Own wr M n (fun p => .bool (S p)) ∧ Below w.heap.size w wr) (fun i _ => n - (intOf i).toNat)
      case atStart => exact ⟨0, Nat.zero_le _, rfl, by rw [til_zero]; exact Own.congr HD.out fun j _ => by rw [pk_none]; rfl, HM.out.alloc _, HBW.out.alloc HBW.out.size _⟩
      case round =>
        have hsz := HBW.out.size
        clear HD HM HBW
        obtain ⟨p, hp, rfl, hpk, hm, hbw⟩ := hrel
        by_cases hlt2 : p < n
        · have cm := hm.cell p hlt2
          cases hSp : S p
          · rw [hSp] at cm
            go_wp2
            refine ⟨⟨p + 1, by omega, by go_num, ?_, hm, hbw⟩, by simp [intOf]; omega⟩
            rw [til_off S p hSp]; exact hpk
          · rw [hSp] at cm
            have cd := hpk.cell (p / 8) (by omega)
            have fd := hpk.free (p / 8)
            have h2 : bits .or .u8 (pk (til S p) (p / 8) : Int) ((2 : Int) ^ min (p % 8) 8 % 256) = ((pk (til S p) (p / 8) ||| 2 ^ (p % 8) : Nat) : Int) := by
              rw [shl8 (by omega)]; exact u8_or_nat _ _ (pk_lt _ _) (pow_lt8 (by omega))
            rw [show min (p % 8) 8 = p % 8 by omega] at h2
            have HK := Lib.hid hpk
            have H2 := Lib.hid h2
            clear hpk h2
            go_wp2
            rw [H2.out]
            refine ⟨⟨p + 1, by omega, by go_num, ?_, hm.other _ (by simp; omega) _, hbw.setCell (p := ⟨wd.heap.size, p / 8, none⟩) hsz _⟩, by simp [intOf]; omega⟩
            rw [til_on S p hSp]; exact HK.out.set p (by omega)
        · have : p = n := by omega
          subst this
          have hc := hpk.conv len
          rw [← HSTR.out] at hc
          go_wp2
          go_ret
          exact ⟨by simp, hbw⟩

set_option maxHeartbeats 1000000 in
theorem walk (a0 : Int) (a1 : Option Addr) (len1 cap1 : Nat) (z1 : List Int) (w : World) (w0 : (Lit.int .u32 a0).wf = true) (w1 : IsInts .u32 w a1 len1 cap1 z1) :
    Calls Try.prog 5 #[.int .u32 a0, .slice a1 len1 cap1] w fun e w' => e = .returned (.bool true) ∧ Below w.heap.size w w' := by
  have m1 : len1 ≤ 9223372036854775807 := by have := w1.1.2.1; have := w1.1.2.2.1; unfold maxLen at this; omega
  obtain ⟨n, rfl, hn⟩ := nat_u32 w0
  clear w0
  by_cases hl : n ≤ 65536 ∧ len1 ≤ 65536
  · exact main n a1 len1 cap1 z1 w w1 hl.1 hl.2
  · clear w1
    by_cases hs : len1 ≤ 1048576
    · by_cases hs2 : len1 ≤ 65536
      · have hs3 : ¬ n ≤ 65536 := fun q => hl ⟨q, hs2⟩
        go_enter Try.func5, Try.ntmps5
        go_wp2
        go_ret
        exact ⟨rfl, Below.refl _ _⟩
      · go_enter Try.func5, Try.ntmps5
        go_wp2
        go_ret
        exact ⟨rfl, Below.refl _ _⟩
    · go_enter Try.func5, Try.ntmps5
      go_wp2
      go_ret
      exact ⟨rfl, Below.refl _ _⟩
end Go.Proofs.Yteemoncgpifocaa.fnBitSetStringIsPackedBitPicture
