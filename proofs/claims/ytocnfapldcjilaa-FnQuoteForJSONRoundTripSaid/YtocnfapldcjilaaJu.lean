/-
  The contract of zzUnquote at what the quoting writes. No condition.
-/
import Derived.Test.YtocnfapldcjilaaJr
import Derived.Laws.AppendOwn
namespace Go.Proofs.Ytocnfapldcjilaa
open Go.ChangeShapes Go.WideShapes Go.ChangeAt Go.RowKit
set_option linter.unusedVariables false

theorem mkOwn (m : Nat) (hm : m ≤ 140737488355328) : ∀ u : World, (Instr.makeSlice 23 (.int .i64 0) (.int .i64 (m : Int))).run Try.prog u =
    .ok (.slice (some ⟨u.heap.size, 0, none⟩) 0 m) (u.alloc (.cells (madeCells #[.int .u8 0] m) 5)) := fun u => by
  obtain ⟨i0, hi, hz0, hz1, hz2⟩ := pInfo info5
  have q := run_make (P := Try.prog) u 23 5 i0 (Value.int .u8 0) Try.underlying23 hi hz0 .i64 .i64 0 (m : Int) (Int.le_refl _) (by omega) (by rw [hz2]; omega) (by omega)
  simpa [hz1, Value.cells] using q
theorem OwnB.made (u : World) (m Bb : Nat) (hm : m ≤ 140737488355328) (hB : Bb ≤ u.heap.size) : OwnB Bb 5 (.slice (some ⟨u.heap.size, 0, none⟩) 0 m) (by8 []) (u.alloc (.cells (madeCells #[.int .u8 0] m) 5)) :=
  .inr ⟨u.heap.size, m, _, (0, 0), rfl, hB, heap_alloc_new u _, .inl rfl, Nat.zero_le _, by unfold maxLen; omega, by simp [size_madeCells], rfl⟩
/-- The cells of a row that came in. -/
structure Cells (g : Nat) (L : List Nat) (w : World) : Prop where
  lt : g < w.heap.size
  cell : ∀ j, j < L.length → w.cell? ⟨g, j, none⟩ = some (.int .u8 ((L.getD j 0 : Nat) : Int))
theorem Cells.at {g : Nat} {L p q r : List Nat} {w w' : World} {i : Nat} (h : Cells g L w) (hb : Below w.heap.size w w') (hL : L = p ++ (q ++ r)) (hi : p.length = i) (k : Nat) (hk : k < q.length) :
    w'.cell? ⟨g, i + k, none⟩ = some (.int .u8 ((q.getD k 0 : Nat) : Int)) := by
  subst hi
  have e : L.getD (p.length + k) 0 = q.getD k 0 := by
    rw [hL, List.getD_eq_getElem?_getD, List.getD_eq_getElem?_getD, List.getElem?_append_right (by omega), Nat.add_sub_cancel_left, List.getElem?_append_left hk]
  rw [hb.cell (p := ⟨g, p.length + k, none⟩) h.lt, h.cell (p.length + k) (by rw [hL, List.length_append, List.length_append]; omega), e]
theorem hexes (u : Nat) (hu : u < 65536) (k : Nat) (hk : k < 4) : (hex4 u).getD (2 + k) 0 = hexU (u / 16 ^ (3 - k) % 16) := by
  unfold hex4
  rcases (show k = 0 ∨ k = 1 ∨ k = 2 ∨ k = 3 by omega) with rfl | rfl | rfl | rfl
  · show hexU (u / 4096) = hexU (u / 4096 % 16)
    rw [Nat.mod_eq_of_lt (a := u / 4096) (by omega)]
  · rfl
  · rfl
  · show hexU (u % 16) = hexU (u / 1 % 16)
    rw [Nat.div_one]
theorem hex4_take (u : Nat) : (hex4 u).length = 6 := rfl
theorem by8_next (l m : List Nat) : by8 l ++ by8 m = by8 (l ++ m) := (by8_app l m).symm
set_option maxRecDepth 10000000 in
set_option maxHeartbeats 8000000 in
theorem unq17 (g n cap : Nat) (L : List Nat) (ts : List Tk) (a : Bool) (w : World) (hL : L = 34 :: (ts.flatMap Tk.bs ++ [34])) (hn : L.length = n) (hn2 : n ≤ 100000000) (hc : Cells g L w)
    (hok : ∀ t ∈ ts, t.ok a) (hv : (ts.flatMap Tk.vs).length ≤ 1048576) :
    Calls Try.prog 17 #[.slice (some ⟨g, 0, none⟩) n cap, .int .u8 34, .bool a] w fun e w' => ∃ v, e = .returned (.tuple #[v, .bool true]) ∧ OwnB w.heap.size 5 v (by8 (ts.flatMap Tk.vs)) w' ∧ Below w.heap.size w w' := by
  obtain ⟨i0, hi, hz0, hz1, hz2⟩ := pInfo info5
  have HI := Lib.hid hi
  have HZ0 := Lib.hid hz0
  have HZ1 := Lib.hid hz1
  have HZ2 := Lib.hid hz2
  have hLn : L.length = (ts.flatMap Tk.bs).length + 2 := by rw [hL]; simp
  have c0 : w.cell? ⟨g, 0, none⟩ = some (.int .u8 34) := by rw [hc.cell 0 (by omega), hL]; rfl
  have c1 : w.cell? ⟨g, n - 1, none⟩ = some (.int .u8 34) := by
    rw [hc.cell (n - 1) (by omega), hL]
    congr 3
    rw [show n - 1 = (34 :: ts.flatMap Tk.bs).length by rw [List.length_cons]; omega, ← List.cons_append, List.getD_eq_getElem?_getD, List.getElem?_append_right (by omega), Nat.sub_self]
    rfl
  obtain ⟨nm, hnm⟩ : ∃ nm, n = nm + 1 := ⟨n - 1, by omega⟩
  have HC := Lib.hid hc
  have HL := Lib.hid hL
  have HOK := Lib.hid hok
  have HV := Lib.hid hv
  have HNM : Hid (nm = (ts.flatMap Tk.bs).length + 1) := Lib.hid (by omega)
  have hlt := hc.lt
  have hnn : 2 ≤ nm + 1 := by omega
  have hmk : ∀ u : World, (Instr.makeSlice 23 (.int .i64 0) (.int .i64 ((nm : Int) + 1))).run Try.prog u = .ok (.slice (some ⟨u.heap.size, 0, none⟩) 0 (nm + 1)) (u.alloc (.cells (madeCells #[.int .u8 0] (nm + 1)) 5)) := fun u => by
    have := mkOwn (nm + 1) (by omega) u
    rwa [show ((nm + 1 : Nat) : Int) = (nm : Int) + 1 by omega] at this
  have HO0 := Lib.hid (OwnB.made w (nm + 1) w.heap.size (by omega) (Nat.le_refl _))
  have HB0 := Lib.hid ((Below.refl w.heap.size w).alloc (Nat.le_refl _) (.cells (madeCells #[.int .u8 0] (nm + 1)) 5))
  rw [hnm, Nat.add_sub_cancel] at c1
  rw [hnm] at hn2 ⊢
  clear hi hz0 hz1 hz2 hc hL hok hv hLn hn hnm
  have g0 : decide ((nm : Int) + 1 < 2) = false := by simp; omega
  have g0 : decide ((nm : Int) + 1 < 2) = false := by simp; omega
  have g0 : decide ((nm : Int) + 1 < 2) = false := by simp; omega
  go_enter Try.func17, Try.ntmps17
  go_wp2_with fail
  go_loopw [9, 10] (fun v0 i wr => ∃ (pre post : List Tk), ts = pre ++ post ∧ i = .int .i64 ((1 + (pre.flatMap Tk.bs).length : Nat) : Int) ∧ OwnB w.heap.size 5 v0 (by8 (pre.flatMap Tk.vs)) wr ∧ Below w.heap.size w wr) (fun _ i _ => nm + 1 - (jq i).toNat)
  case atStart => exact ⟨[], ts, rfl, rfl, HO0.out, HB0.out⟩
  case round =>
    obtain ⟨pre, post, hts, rfl, hown, hbw⟩ := hrel
    have HOW := Lib.hid hown
    have HBW := Lib.hid hbw
    have HTS := Lib.hid hts
    have hwz := hbw.size
    have hvl : (pre.flatMap Tk.vs).length ≤ 1048576 := by have := HV.out; rw [hts, List.flatMap_append, List.length_append] at this; omega
    have hnl : nm = (pre.flatMap Tk.bs).length + (post.flatMap Tk.bs).length + 1 := by rw [HNM.out, hts, List.flatMap_append, List.length_append]
    have HLL : Hid (L = (34 :: pre.flatMap Tk.bs) ++ (post.flatMap Tk.bs ++ [34])) := Lib.hid (by rw [HL.out, hts, List.flatMap_append]; simp)
    obtain ⟨i, hi⟩ : ∃ i, 1 + (pre.flatMap Tk.bs).length = i := ⟨_, rfl⟩
    have HII : Hid ((34 :: pre.flatMap Tk.bs).length = i) := Lib.hid (by rw [List.length_cons]; omega)
    have hnl2 : nm = i + (post.flatMap Tk.bs).length := by omega
    rw [hi]
    clear hown hbw hts hnl hi
    cases post with
    | nil =>
      have : nm = i := by rw [hnl2]; simp
      subst this
      clear hnl2
      go_wp2_with fail
      go_ret2
      refine ⟨_, rfl, ?_, HBW.out⟩
      have hts := HTS.out
      rw [List.append_nil] at hts
      rw [hts]
      exact HOW.out
    | cons t rest =>
      have hto := HOK.out t (by rw [HTS.out]; simp)
      rw [List.flatMap_cons, List.length_append] at hnl2
      have HLT : Hid (L = (34 :: pre.flatMap Tk.bs) ++ (t.bs ++ (rest.flatMap Tk.bs ++ [34]))) := Lib.hid (by rw [HLL.out, List.flatMap_cons]; simp)
      have HAT := fun k hk => HC.out.at HBW.out HLT.out HII.out k hk
      have HAT := Lib.hid HAT
      have HLP : Hid (1 + ((pre ++ [t]).flatMap Tk.bs).length = i + t.bs.length) := Lib.hid (by have := HII.out; rw [List.length_cons] at this; rw [List.flatMap_append, List.length_append, List.flatMap_cons, List.flatMap_nil, List.append_nil]; omega)
      have HVP : Hid ((pre ++ [t]).flatMap Tk.vs = pre.flatMap Tk.vs ++ t.vs) := Lib.hid (by rw [List.flatMap_append, List.flatMap_cons, List.flatMap_nil, List.append_nil])
      obtain ⟨rl, hrl⟩ : ∃ rl, (rest.flatMap Tk.bs).length = rl := ⟨_, rfl⟩
      rw [hrl] at hnl2
      clear hrl HLL
      cases t with
      | raw b =>
        obtain ⟨hb1, hb2, hb3, hb4, hb5⟩ := hto
        have hcell : wr.cell? ⟨g, i, none⟩ = some (.int .u8 (b : Int)) := HAT.out 0 (by show 0 < 1; omega)
        have e : (Tk.raw b).bs.length = 1 := rfl
        rw [e] at hnl2
        have hle : i < nm := by omega
        clear hnl2
        have n1 : ((b : Int) == 34) = false := by simp; omega
        have n2 : ((b : Int) != 92) = true := by simp; omega
        clear e
        have HAT0 := HAT
        clear HAT
        cases a with
        | false =>
          clear hb3 hb4 hb5
          go_wp2_with (refine wpList_append_ownB rfl _ _ 23 rfl w.heap.size 5 i0 Try.underlying23 HI.out HZ0.out HZ1.out HZ2.out _ (by8 (pre.flatMap Tk.vs)) rfl (HOW.out.alloc _) ⟨wr.heap.size, 0, none⟩ 1 1 (by8 [b]) rfl rfl (newsAt wr _ [b] (by simp; omega) (by simp)) (by rw [by8_len]; omega) (by simp; omega) ?_; intro v2 w3 hown3 hg3; have HO3 := Lib.hid hown3; have HW3 := Lib.hid (below_grown (HBW.out.alloc hwz _) (by simp; omega) (HOW.out.alloc _) hg3); clear hown3 hg3)
          go_roundw
          case rel => exact ⟨pre ++ [.raw b], rest, by rw [HTS.out]; simp, by rw [HLP.out]; simp [Tk.bs], by rw [HVP.out, ← by8_next]; exact HO3.out, HW3.out⟩
          case measure => simp [jq]; omega
        | true =>
          have hb6 := hb5 rfl
          clear hb3 hb4 hb5
          go_wp2_with (refine wpList_append_ownB rfl _ _ 23 rfl w.heap.size 5 i0 Try.underlying23 HI.out HZ0.out HZ1.out HZ2.out _ (by8 (pre.flatMap Tk.vs)) rfl (HOW.out.alloc _) ⟨wr.heap.size, 0, none⟩ 1 1 (by8 [b]) rfl rfl (newsAt wr _ [b] (by simp; omega) (by simp)) (by rw [by8_len]; omega) (by simp; omega) ?_; intro v2 w3 hown3 hg3; have HO3 := Lib.hid hown3; have HW3 := Lib.hid (below_grown (HBW.out.alloc hwz _) (by simp; omega) (HOW.out.alloc _) hg3); clear hown3 hg3)
          go_roundw
          case rel => exact ⟨pre ++ [.raw b], rest, by rw [HTS.out]; simp, by rw [HLP.out]; simp [Tk.bs], by rw [HVP.out, ← by8_next]; exact HO3.out, HW3.out⟩
          case measure => simp [jq]; omega
      | two e s => 
        have hin : (e, s) ∈ twos := hto
        have hs256 : s < 256 := by
          simp only [twos, List.mem_cons, Prod.mk.injEq, List.not_mem_nil, or_false] at hin
          omega
        have hcell : wr.cell? ⟨g, i, none⟩ = some (.int .u8 92) := HAT.out 0 (by show 0 < 2; omega)
        have hcell1 : wr.cell? ⟨g, i + 1, none⟩ = some (.int .u8 (e : Int)) := HAT.out 1 (by show 1 < 2; omega)
        have el : (Tk.two e s).bs.length = 2 := rfl
        rw [el] at hnl2
        have hle : i + 1 < nm := by omega
        clear hnl2
        have H25 := fun W => Lib.hid (two25 e s hin W)
        clear hin hto el HAT
        cases a
        all_goals
          go_wp2_with (first
            | (go_at_call 25; (with_reducible refine (H25 _).out.mono ?_); rintro _ _ ⟨rfl, rfl⟩)
            | (refine wpList_append_ownB rfl _ _ 23 rfl w.heap.size 5 i0 Try.underlying23 HI.out HZ0.out HZ1.out HZ2.out _ (by8 (pre.flatMap Tk.vs)) rfl (HOW.out.alloc _) ⟨wr.heap.size, 0, none⟩ 1 1 (by8 [s]) rfl rfl (newsAt wr _ [s] (by simp; omega) (by simp)) (by rw [by8_len]; omega) (by simp; omega) ?_; intro v2 w3 hown3 hg3; have HO3 := Lib.hid hown3; have HW3 := Lib.hid (below_grown (HBW.out.alloc hwz _) (by simp; omega) (HOW.out.alloc _) hg3); clear hown3 hg3))
          go_roundw
          case rel => exact ⟨pre ++ [.two e s], rest, by rw [HTS.out]; simp, by rw [HLP.out]; simp [Tk.bs], by rw [HVP.out, ← by8_next]; exact HO3.out, HW3.out⟩
          case measure => simp [jq]; omega
      | four u =>
        have hto2 : u < 55296 ∨ (57344 ≤ u ∧ u < 65536) := hto
        have hu : u < 65536 := by omega
        have hcell : wr.cell? ⟨g, i, none⟩ = some (.int .u8 92) := HAT.out 0 (by show 0 < 6; omega)
        have hcell1 : wr.cell? ⟨g, i + 1, none⟩ = some (.int .u8 117) := HAT.out 1 (by show 1 < 6; omega)
        have H26 := Lib.hid (read26 g (nm + 1) cap (i + 2) nm u wr hu (by have e : (Tk.four u).bs.length = 6 := rfl; omega) (by omega) (by omega) (fun k hk => by
          have h := HAT.out (2 + k) (by show 2 + k < 6; omega)
          rw [← hexes u hu k hk, show i + 2 + k = i + (2 + k) by omega]
          exact h))
        have el : (Tk.four u).bs.length = 6 := rfl
        rw [el] at hnl2
        have hle : i + 5 < nm := by omega
        have HEL := Lib.hid el
        clear hnl2 el HAT hto
        have e26a : ((i + 2 : Nat) : Int) = (i : Int) + 2 := by omega
        rw [e26a] at H26
        have H25 := fun W => Lib.hid (two25u W)
        have H27 := Lib.hid (app27 w.heap.size _ (by8 (pre.flatMap Tk.vs)) u wr HOW.out (by omega) (by rw [by8_len]; omega) hwz)
        clear e26a
        rcases hto2 with h1 | ⟨h1, h2⟩
        all_goals
          cases a
          all_goals
            go_wp2_with (first
              | (go_at_call 25; (with_reducible refine (H25 _).out.mono ?_); rintro _ _ ⟨rfl, rfl⟩)
              | (go_at_call 26; (with_reducible refine H26.out.mono ?_); rintro _ _ ⟨rfl, rfl⟩)
              | (go_at_call 27; (with_reducible refine H27.out.mono ?_); rintro _ w3 ⟨v2, rfl, hown3, hb3⟩; have HO3 := Lib.hid hown3; have HW3 := Lib.hid (HBW.out.trans hb3); clear hown3 hb3))
            go_roundw
            case rel => exact ⟨pre ++ [.four u], rest, by rw [HTS.out]; simp, by rw [HLP.out, HEL.out]; go_num, by rw [HVP.out, ← by8_next]; exact HO3.out, HW3.out⟩
            case measure => simp [jq]; omega
      | pair c =>
        obtain ⟨hc1, hc2⟩ : 65536 ≤ c ∧ c ≤ 1114111 := hto
        obtain ⟨x1, hx1⟩ : ∃ y, y = (c - 65536) / 1024 := ⟨_, rfl⟩
        obtain ⟨x2, hx2⟩ : ∃ y, y = (c - 65536) % 1024 := ⟨_, rfl⟩
        obtain ⟨p, hp⟩ : ∃ p, p = 55296 + x1 := ⟨_, rfl⟩
        obtain ⟨q, hq⟩ : ∃ p, p = 56320 + x2 := ⟨_, rfl⟩
        have hbs : (Tk.pair c).bs = hex4 p ++ hex4 q := by rw [hp, hq, hx1, hx2]; rfl
        have el : (Tk.pair c).bs.length = 12 := rfl
        have hcell : wr.cell? ⟨g, i, none⟩ = some (.int .u8 92) := HAT.out 0 (by rw [el]; omega)
        have hcell1 : wr.cell? ⟨g, i + 1, none⟩ = some (.int .u8 117) := HAT.out 1 (by rw [el]; omega)
        have hcell6 : wr.cell? ⟨g, i + 6, none⟩ = some (.int .u8 92) := HAT.out 6 (by rw [el]; omega)
        have hcell7 : wr.cell? ⟨g, i + 7, none⟩ = some (.int .u8 117) := HAT.out 7 (by rw [el]; omega)
        have hcell7b : wr.cell? ⟨g, i + 6 + 1, none⟩ = some (.int .u8 117) := hcell7
        have lp : p < 65536 := by omega
        have lq : q < 65536 := by omega
        have H26a := Lib.hid (read26 g (nm + 1) cap (i + 2) nm p wr lp (by omega) (by omega) (by omega) (fun k hk => by
          have h := HAT.out (2 + k) (by rw [el]; omega)
          rw [← hexes p lp k hk, show i + 2 + k = i + (2 + k) by omega, h, hbs, List.getD_eq_getElem?_getD, List.getD_eq_getElem?_getD, List.getElem?_append_left (by rw [hex4_take]; omega)]))
        have H26b := Lib.hid (read26 g (nm + 1) cap (i + 8) nm q wr lq (by omega) (by omega) (by omega) (fun k hk => by
          have h := HAT.out (8 + k) (by rw [el]; omega)
          rw [← hexes q lq k hk, show i + 8 + k = i + (8 + k) by omega, h, hbs, List.getD_eq_getElem?_getD, List.getD_eq_getElem?_getD, List.getElem?_append_right (by rw [hex4_take]; omega), hex4_take, show 8 + k - 6 = 2 + k by omega]))
        rw [el] at hnl2
        have hle : i + 11 < nm := by omega
        have HEL := Lib.hid el
        have e26a : ((i + 2 : Nat) : Int) = (i : Int) + 2 := by omega
        rw [e26a] at H26a
        have H26c : ∀ z : Int, z = (i : Int) + 8 → Hid (Calls Try.prog 26 #[.slice (some ⟨g, 0, none⟩) (nm + 1) cap, .int .i64 z, .int .i64 nm] wr fun e w' => e = .returned (.tuple #[.int .i32 (q : Int), .bool true]) ∧ wr = w') := fun z hz => by
          rw [hz, show (i : Int) + 8 = ((i + 8 : Nat) : Int) by omega]; exact H26b
        have H26c := Lib.hid H26c
        have H25 := fun W => Lib.hid (two25u W)
        have H27 := Lib.hid (app27 w.heap.size _ (by8 (pre.flatMap Tk.vs)) c wr HOW.out hc2 (by rw [by8_len]; omega) hwz)
        have d1 : (p : Int) - 55296 = (x1 : Int) := by omega
        have d2 : (q : Int) - 56320 = (x2 : Int) := by omega
        have d3 : 65536 + (x1 : Int) * 1024 + (x2 : Int) = (c : Int) := by omega
        have p1 : 55296 ≤ p := by omega
        have p2 : p ≤ 56319 := by omega
        have q1 : 56320 ≤ q := by omega
        have q2 : q ≤ 57343 := by omega
        have b1 : x1 < 1024 := by omega
        have b2 : x2 < 1024 := by omega
        clear hnl2 el HAT hx1 hx2 hp hq hbs e26a H26b lp lq
        cases a
        all_goals
          go_wp2_with (first
            | (go_at_call 25; (with_reducible refine (H25 _).out.mono ?_); rintro _ _ ⟨rfl, rfl⟩)
            | (go_at_call 26; (with_reducible refine H26a.out.mono ?_); rintro _ _ ⟨rfl, rfl⟩)
            | (go_at_call 26; (with_reducible refine (H26c.out _ (by omega)).out.mono ?_); rintro _ _ ⟨rfl, rfl⟩)
            | (go_at_call 27; (with_reducible refine H27.out.mono ?_); rintro _ w3 ⟨v2, rfl, hown3, hb3⟩; have HO3 := Lib.hid hown3; have HW3 := Lib.hid (HBW.out.trans hb3); clear hown3 hb3))
          go_roundw
          case rel => exact ⟨pre ++ [.pair c], rest, by rw [HTS.out]; simp, by rw [HLP.out, HEL.out]; go_num, by rw [HVP.out, ← by8_next]; exact HO3.out, HW3.out⟩
          case measure => simp [jq]; omega
end Go.Proofs.Ytocnfapldcjilaa
