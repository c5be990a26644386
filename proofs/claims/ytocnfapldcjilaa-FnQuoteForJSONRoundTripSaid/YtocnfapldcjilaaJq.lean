/-
  The contract of internalQuote at a valid text. No condition.
-/
import Derived.Test.YtocnfapldcjilaaJw
import Derived.Test.YtocnfapldcjilaaShelf
import Derived.Laws.RangeAny
import Derived.RegionTactic
namespace Go.Proofs.Ytocnfapldcjilaa
open Go.ChangeShapes Go.WideShapes Go.ChangeAt Go.RowKit
set_option linter.unusedVariables false

theorem wdt (s : ByteArray) (pos : Nat) (h : pos < s.size) : 1 ≤ (Utf8.decode s pos).2 ∧ pos + (Utf8.decode s pos).2 ≤ s.size ∧ (Utf8.decode s pos).1 ≤ 1114111 := by
  rw [decode_B]
  by_cases hlow : B s pos < 128
  · rw [decodeN_low hlow]; simp only; omega
  · obtain ⟨p1, p2, p3, p4, p5, p6, p7, p8⟩ := decodeN_high (n := s.size - pos) (b1 := B s (pos + 1)) (b2 := B s (pos + 2)) (b3 := B s (pos + 3)) (by omega) (show 128 ≤ B s pos by omega)
    exact ⟨p2, by omega, p8⟩
theorem rlen (a : Bool) (c : Nat) (h : can a c = true) (hc : c ≤ 1114111) : ∃ n : Nat, Lib.runeLen (c : Int) = (n : Int) ∧ 1 ≤ n ∧ n ≤ 4 := by
  have hs : c < 55296 ∨ 57343 < c := by
    unfold can at h
    split at h
    · omega
    · simp at h; omega
  unfold Lib.runeLen
  rw [if_neg (by omega)]
  split
  · exact ⟨1, rfl, by omega, by omega⟩
  split
  · exact ⟨2, rfl, by omega, by omega⟩
  split
  · omega
  split
  · exact ⟨3, rfl, by omega, by omega⟩
  split
  · exact ⟨4, rfl, by omega, by omega⟩
  · omega
theorem not_can (a : Bool) (c : Nat) (h : can a c = false) : c ≠ 39 := by
  rintro rfl
  revert h
  cases a <;> decide
theorem hex4_len (u : Nat) : (hex4 u).length = 6 := rfl
theorem tok_len (a : Bool) (c : Nat) : ((toks a c).flatMap Tk.bs).length ≤ 12 := by
  by_cases h : can a c = true
  · rw [toks_can a c h]; have := encN_len c; omega
  · unfold toks
    rw [if_neg h]
    repeat' split
    all_goals simp [Tk.bs, hex4_len]
theorem outs_len (a : Bool) (cs : List Nat) : (outs a cs).length ≤ 12 * (cs.flatMap encN).length := by
  induction cs with
  | nil => simp [outs]
  | cons c l ih =>
    have e : outs a (c :: l) = (toks a c).flatMap Tk.bs ++ outs a l := by simp [outs]
    have := tok_len a c
    have := encN_len c
    rw [e, List.flatMap_cons, List.length_append, List.length_append]
    omega
def HX : ByteArray := ⟨#[48, 49, 50, 51, 52, 53, 54, 55, 56, 57, 65, 66, 67, 68, 69, 70]⟩
theorem hx_at : ∀ k : Fin 16, (HX[k.val]'(by have := k.isLt; exact this)).toNat = hexU k.val := by decide
theorem cl_hex (y0 y1 y2 y3 : Nat) (h0 : y0 < 16) (h1 : y1 < 16) (h2 : y2 < 16) (h3 : y3 < 16) :
    [Value.int .u8 92, Value.int .u8 117, Value.int .u8 ((HX[y0]'h0).toNat : Int), Value.int .u8 ((HX[y1]'h1).toNat : Int), Value.int .u8 ((HX[y2]'h2).toNat : Int), Value.int .u8 ((HX[y3]'h3).toNat : Int)] =
      cl [92, 117, hexU y0, hexU y1, hexU y2, hexU y3] := by
  rw [hx_at ⟨y0, h0⟩, hx_at ⟨y1, h1⟩, hx_at ⟨y2, h2⟩, hx_at ⟨y3, h3⟩]; rfl
theorem cl_hex2 (y0 y1 y2 y3 x0 x1 x2 x3 : Nat) (h0 : y0 < 16) (h1 : y1 < 16) (h2 : y2 < 16) (h3 : y3 < 16) (g0 : x0 < 16) (g1 : x1 < 16) (g2 : x2 < 16) (g3 : x3 < 16) :
    [Value.int .u8 92, Value.int .u8 117, Value.int .u8 ((HX[y0]'h0).toNat : Int), Value.int .u8 ((HX[y1]'h1).toNat : Int), Value.int .u8 ((HX[y2]'h2).toNat : Int), Value.int .u8 ((HX[y3]'h3).toNat : Int),
     Value.int .u8 92, Value.int .u8 117, Value.int .u8 ((HX[x0]'g0).toNat : Int), Value.int .u8 ((HX[x1]'g1).toNat : Int), Value.int .u8 ((HX[x2]'g2).toNat : Int), Value.int .u8 ((HX[x3]'g3).toNat : Int)] =
      cl ([92, 117, hexU y0, hexU y1, hexU y2, hexU y3] ++ [92, 117, hexU x0, hexU x1, hexU x2, hexU x3]) := by
  rw [hx_at ⟨y0, h0⟩, hx_at ⟨y1, h1⟩, hx_at ⟨y2, h2⟩, hx_at ⟨y3, h3⟩, hx_at ⟨x0, g0⟩, hx_at ⟨x1, g1⟩, hx_at ⟨x2, g2⟩, hx_at ⟨x3, g3⟩]; rfl
theorem pre_out (a : Bool) (pre : List Nat) (c : Nat) (bs : List Nat) (h : (toks a c).flatMap Tk.bs = bs) : 34 :: outs a (pre ++ [c]) = (34 :: outs a pre) ++ bs := by
  rw [outs_app, outs_one, h]; rfl
theorem pre_can (a : Bool) (mid : List Nat) (h : ∀ d ∈ mid, can a d = true) : outs a mid = mid.flatMap encN := by
  induction mid with
  | nil => rfl
  | cons c l ih =>
    have e : outs a (c :: l) = (toks a c).flatMap Tk.bs ++ outs a l := by simp [outs]
    rw [e, toks_can a c (h c (by simp)), ih (fun d hd => h d (by simp [hd]))]
    rfl
theorem mid_text (s : ByteArray) (p q r u : List Nat) (i m k : Nat) (h : nb s = p ++ (q ++ (r ++ u))) (hp : p.length = i) (hq : q.length = m) (hr : r.length = k) : nb (s.extract i (i + m + k)) = q ++ r := by
  have e : p ++ (q ++ (r ++ u)) = (p ++ (q ++ r)) ++ u := by simp
  rw [nb_mid, h, e, List.take_left' (by simp; omega), List.drop_left' hp]
set_option maxHeartbeats 2000000 in
theorem run_build6 (n0 n1 n2 n3 n4 n5 : Int) (W : World) : (Instr.buildSlice 23 6 #[(0, Value.int .u8 n0), (1, Value.int .u8 n1), (2, Value.int .u8 n2), (3, Value.int .u8 n3), (4, Value.int .u8 n4), (5, Value.int .u8 n5)]).run Try.prog W.drew = .ok (.slice (some ⟨W.heap.size, 0, none⟩) 6 6) (W.alloc (.cells #[Value.int .u8 n0, Value.int .u8 n1, Value.int .u8 n2, Value.int .u8 n3, Value.int .u8 n4, Value.int .u8 n5] 5)).drew := by
  simp [go_sem]
set_option maxHeartbeats 2000000 in
theorem step_build6 {ops : Array Oper} {o : Oper} {a : Act} {K : Act → World → Prop} {Q : Exit → Act → World → Prop} {E : Prop} {W : World} (hgd : o.guard = none) (x0 x1 x2 x3 x4 x5 : Operand) (n0 n1 n2 n3 n4 n5 : Int)
    (ho : o.op = .buildSlice 23 6 #[(0, x0), (1, x1), (2, x2), (3, x3), (4, x4), (5, x5)]) (h0 : a.eval x0 = .int .u8 n0) (h1 : a.eval x1 = .int .u8 n1) (h2 : a.eval x2 = .int .u8 n2) (h3 : a.eval x3 = .int .u8 n3) (h4 : a.eval x4 = .int .u8 n4) (h5 : a.eval x5 = .int .u8 n5)
    (h : K (a.put o.dst (.slice (some ⟨W.heap.size, 0, none⟩) 6 6)) (W.alloc (.cells #[Value.int .u8 n0, Value.int .u8 n1, Value.int .u8 n2, Value.int .u8 n3, Value.int .u8 n4, Value.int .u8 n5] 5)).drew) : if Region.wanted o (yielded ops a.tmps) = true then Oper.wp Try.prog o a W.drew K Q else E := by
  rw [if_pos (by simp [Region.wanted, hgd])]
  unfold Oper.wp execOp
  simp only [ho, List.map_toArray, List.map_cons, List.map_nil, h0, h1, h2, h3, h4, h5, Sem.run_bind, Sem.run_pure, run_build6, Result.andThen_ok]
  exact h
set_option maxHeartbeats 2000000 in
theorem run_build12 (n0 n1 n2 n3 n4 n5 n6 n7 n8 n9 n10 n11 : Int) (W : World) : (Instr.buildSlice 23 12 #[(0, Value.int .u8 n0), (1, Value.int .u8 n1), (2, Value.int .u8 n2), (3, Value.int .u8 n3), (4, Value.int .u8 n4), (5, Value.int .u8 n5), (6, Value.int .u8 n6), (7, Value.int .u8 n7), (8, Value.int .u8 n8), (9, Value.int .u8 n9), (10, Value.int .u8 n10), (11, Value.int .u8 n11)]).run Try.prog W.drew = .ok (.slice (some ⟨W.heap.size, 0, none⟩) 12 12) (W.alloc (.cells #[Value.int .u8 n0, Value.int .u8 n1, Value.int .u8 n2, Value.int .u8 n3, Value.int .u8 n4, Value.int .u8 n5, Value.int .u8 n6, Value.int .u8 n7, Value.int .u8 n8, Value.int .u8 n9, Value.int .u8 n10, Value.int .u8 n11] 5)).drew := by
  simp [go_sem]
set_option maxHeartbeats 2000000 in
theorem step_build12 {ops : Array Oper} {o : Oper} {a : Act} {K : Act → World → Prop} {Q : Exit → Act → World → Prop} {E : Prop} {W : World} (hgd : o.guard = none) (x0 x1 x2 x3 x4 x5 x6 x7 x8 x9 x10 x11 : Operand) (n0 n1 n2 n3 n4 n5 n6 n7 n8 n9 n10 n11 : Int)
    (ho : o.op = .buildSlice 23 12 #[(0, x0), (1, x1), (2, x2), (3, x3), (4, x4), (5, x5), (6, x6), (7, x7), (8, x8), (9, x9), (10, x10), (11, x11)]) (h0 : a.eval x0 = .int .u8 n0) (h1 : a.eval x1 = .int .u8 n1) (h2 : a.eval x2 = .int .u8 n2) (h3 : a.eval x3 = .int .u8 n3) (h4 : a.eval x4 = .int .u8 n4) (h5 : a.eval x5 = .int .u8 n5) (h6 : a.eval x6 = .int .u8 n6) (h7 : a.eval x7 = .int .u8 n7) (h8 : a.eval x8 = .int .u8 n8) (h9 : a.eval x9 = .int .u8 n9) (h10 : a.eval x10 = .int .u8 n10) (h11 : a.eval x11 = .int .u8 n11)
    (h : K (a.put o.dst (.slice (some ⟨W.heap.size, 0, none⟩) 12 12)) (W.alloc (.cells #[Value.int .u8 n0, Value.int .u8 n1, Value.int .u8 n2, Value.int .u8 n3, Value.int .u8 n4, Value.int .u8 n5, Value.int .u8 n6, Value.int .u8 n7, Value.int .u8 n8, Value.int .u8 n9, Value.int .u8 n10, Value.int .u8 n11] 5)).drew) : if Region.wanted o (yielded ops a.tmps) = true then Oper.wp Try.prog o a W.drew K Q else E := by
  rw [if_pos (by simp [Region.wanted, hgd])]
  unfold Oper.wp execOp
  simp only [ho, List.map_toArray, List.map_cons, List.map_nil, h0, h1, h2, h3, h4, h5, h6, h7, h8, h9, h10, h11, Sem.run_bind, Sem.run_pure, run_build12, Result.andThen_ok]
  exact h
set_option maxRecDepth 10000000 in
set_option maxHeartbeats 60000000 in
theorem quote24 (s : ByteArray) (cs : List Nat) (a : Bool) (hs : s.size ≤ 1048576) (hp : Pts s cs) (w : World) :
    Calls Try.prog 24 #[.string s, .bool a, .int .u8 34] w fun e w' => ∃ v, e = .returned v ∧ Row w.heap.size v ((34 :: outs a cs) ++ [34]) w' ∧ Below w.heap.size w w' := by
  have HP := Lib.hid hp
  clear hp
  go_enter Try.func24, Try.ntmps24
  go_wp2_with fail
  go_loopw [7] (fun v w' => ∃ pos m : Nat, w' = w.iter s pos ∧ v = .int .i64 m ∧ 2 ≤ m ∧ m ≤ 2 + 12 * pos ∧ pos ≤ s.size) (fun _ w' => s.size - w'.iterPos w.heap.size)
  case atStart => exact ⟨0, 2, rfl, rfl, by omega, by omega, by omega⟩
  case round =>
    obtain ⟨pos, m, rfl, rfl, hm2, hm, hpos⟩ := hrel
    have hbel : Below w.heap.size w (w.iter s pos) := (Below.refl _ w).alloc (Nat.le_refl _) _
    by_cases hlt : pos < s.size
    · have hnx : ∀ ty, (Instr.next (.pointer (some ⟨w.heap.size, 0, none⟩)) true ty).run Try.prog (w.iter s pos) = _ := fun ty => run_next_any w s pos ty hlt
      obtain ⟨hw1, hw2, hw3⟩ := wdt s pos hlt
      generalize (Utf8.decode s pos).2 = wd at *
      generalize (Utf8.decode s pos).1 = c at *
      have HC30 := fun W => Lib.hid (can30 c a hw3 W)
      obtain ⟨v, hv⟩ : ∃ v, can a c = v := ⟨_, rfl⟩
      have HV := Lib.hid hv
      simp only [hv] at HC30
      clear hv
      cases v with
      | true =>
        obtain ⟨n, hn, hn1, hn4⟩ := rlen a c HV.out hw3
        have H31 := fun W => Lib.hid (Try.utf8_RuneLen (c : Int) W)
        simp only [hn] at H31
        clear hn
        go_wp2_with (first
          | (go_at_call 30; (with_reducible refine (HC30 _).out.mono ?_); rintro _ _ ⟨rfl, rfl⟩)
          | (go_at_call 31; (with_reducible refine (H31 _).out.mono ?_); rintro _ _ ⟨rfl, rfl⟩))
        exact ⟨⟨pos + wd, m + n, rfl, by go_num, by omega, by omega, by omega⟩, by simp; omega⟩
      | false =>
        have h39 := not_can a c HV.out
        by_cases h2 : c = 8 ∨ c = 12 ∨ c = 10 ∨ c = 13 ∨ c = 9 ∨ c = 92 ∨ c = 34
        · rcases h2 with h2 | h2 | h2 | h2 | h2 | h2 | h2
          · as_aux_lemma =>
            clear h39
            have c0 : ((c : Int) == 8) = true := by simp; omega
            clear h2
            go_wp2_with (go_at_call 30; (with_reducible refine (HC30 _).out.mono ?_); rintro _ _ ⟨rfl, rfl⟩)
            exact ⟨⟨pos + wd, m + 2, rfl, by go_num, by omega, by omega, by omega⟩, by simp; omega⟩
          · as_aux_lemma =>
            clear h39
            have c0 : ((c : Int) == 8) = false := by simp; omega
            have c1 : ((c : Int) == 12) = true := by simp; omega
            clear h2
            go_wp2_with (go_at_call 30; (with_reducible refine (HC30 _).out.mono ?_); rintro _ _ ⟨rfl, rfl⟩)
            exact ⟨⟨pos + wd, m + 2, rfl, by go_num, by omega, by omega, by omega⟩, by simp; omega⟩
          · as_aux_lemma =>
            clear h39
            have c0 : ((c : Int) == 8) = false := by simp; omega
            have c1 : ((c : Int) == 12) = false := by simp; omega
            have c2 : ((c : Int) == 10) = true := by simp; omega
            clear h2
            go_wp2_with (go_at_call 30; (with_reducible refine (HC30 _).out.mono ?_); rintro _ _ ⟨rfl, rfl⟩)
            exact ⟨⟨pos + wd, m + 2, rfl, by go_num, by omega, by omega, by omega⟩, by simp; omega⟩
          · as_aux_lemma =>
            clear h39
            have c0 : ((c : Int) == 8) = false := by simp; omega
            have c1 : ((c : Int) == 12) = false := by simp; omega
            have c2 : ((c : Int) == 10) = false := by simp; omega
            have c3 : ((c : Int) == 13) = true := by simp; omega
            clear h2
            go_wp2_with (go_at_call 30; (with_reducible refine (HC30 _).out.mono ?_); rintro _ _ ⟨rfl, rfl⟩)
            exact ⟨⟨pos + wd, m + 2, rfl, by go_num, by omega, by omega, by omega⟩, by simp; omega⟩
          · as_aux_lemma =>
            clear h39
            have c0 : ((c : Int) == 8) = false := by simp; omega
            have c1 : ((c : Int) == 12) = false := by simp; omega
            have c2 : ((c : Int) == 10) = false := by simp; omega
            have c3 : ((c : Int) == 13) = false := by simp; omega
            have c4 : ((c : Int) == 9) = true := by simp; omega
            clear h2
            go_wp2_with (go_at_call 30; (with_reducible refine (HC30 _).out.mono ?_); rintro _ _ ⟨rfl, rfl⟩)
            exact ⟨⟨pos + wd, m + 2, rfl, by go_num, by omega, by omega, by omega⟩, by simp; omega⟩
          · as_aux_lemma =>
            clear h39
            have c0 : ((c : Int) == 8) = false := by simp; omega
            have c1 : ((c : Int) == 12) = false := by simp; omega
            have c2 : ((c : Int) == 10) = false := by simp; omega
            have c3 : ((c : Int) == 13) = false := by simp; omega
            have c4 : ((c : Int) == 9) = false := by simp; omega
            have c5 : ((c : Int) == 92) = true := by simp; omega
            clear h2
            go_wp2_with (go_at_call 30; (with_reducible refine (HC30 _).out.mono ?_); rintro _ _ ⟨rfl, rfl⟩)
            exact ⟨⟨pos + wd, m + 2, rfl, by go_num, by omega, by omega, by omega⟩, by simp; omega⟩
          · as_aux_lemma =>
            clear h39
            have c0 : ((c : Int) == 8) = false := by simp; omega
            have c1 : ((c : Int) == 12) = false := by simp; omega
            have c2 : ((c : Int) == 10) = false := by simp; omega
            have c3 : ((c : Int) == 13) = false := by simp; omega
            have c4 : ((c : Int) == 9) = false := by simp; omega
            have c5 : ((c : Int) == 92) = false := by simp; omega
            have c6 : ((c : Int) == 34) = true := by simp; omega
            clear h2
            go_wp2_with (go_at_call 30; (with_reducible refine (HC30 _).out.mono ?_); rintro _ _ ⟨rfl, rfl⟩)
            exact ⟨⟨pos + wd, m + 2, rfl, by go_num, by omega, by omega, by omega⟩, by simp; omega⟩
        · have hx2 := h2
          clear h2
          have c0 : ((c : Int) == 8) = false := by simp; omega
          have c1 : ((c : Int) == 12) = false := by simp; omega
          have c2 : ((c : Int) == 10) = false := by simp; omega
          have c3 : ((c : Int) == 13) = false := by simp; omega
          have c4 : ((c : Int) == 9) = false := by simp; omega
          have c5 : ((c : Int) == 92) = false := by simp; omega
          have c6 : ((c : Int) == 34) = false := by simp; omega
          have c7 : ((c : Int) == 39) = false := by simp; omega
          clear hx2 h39
          by_cases h6 : c ≤ 65535
          · go_wp2_with (go_at_call 30; (with_reducible refine (HC30 _).out.mono ?_); rintro _ _ ⟨rfl, rfl⟩)
            exact ⟨⟨pos + wd, m + 6, rfl, by go_num, by omega, by omega, by omega⟩, by simp; omega⟩
          · go_wp2_with (go_at_call 30; (with_reducible refine (HC30 _).out.mono ?_); rintro _ _ ⟨rfl, rfl⟩)
            exact ⟨⟨pos + wd, m + 12, rfl, by go_num, by omega, by omega, by omega⟩, by simp; omega⟩
    · have hnx : ∀ ty, (Instr.next (.pointer (some ⟨w.heap.size, 0, none⟩)) true ty).run Try.prog (w.iter s pos) = _ := fun ty => run_next_end w s pos ty hlt
      generalize w.iter s pos = w1 at *
      have hmk := mkRow m (by omega)
      have hz1 := hbel.size
      have HR0 := Lib.hid (Row.made w1 m w.heap.size (by omega) hz1)
      have HB0 := Lib.hid (hbel.alloc hz1 (.cells (madeCells #[.int .u8 0] m) 5))
      clear hbel hm2 hm hpos hlt
      go_wp2_with (refine wp_new rfl _ _ rfl w.heap.size _ [] [34] w rfl HR0.out HB0.out 1 _ rfl (by simp) (by rfl) (by simp) (by simp; omega) ?_; intro v2 w2 HR1 HB1)
      go_loopw [10, 11] (fun v i wr => ∃ pre post : List Nat, cs = pre ++ post ∧ i = .int .i64 ((pre.flatMap encN).length : Int) ∧ Row w.heap.size v (34 :: outs a pre) wr ∧ Below w.heap.size w wr) (fun _ i _ => s.size - (jq i).toNat)
      case atStart => exact ⟨[], cs, rfl, rfl, HR1.out, HB1.out⟩
      case round =>
        obtain ⟨pre, post, hcs, rfl, hrow, hbw⟩ := hrel
        have HROW := Lib.hid hrow
        have HBW := Lib.hid hbw
        have hwz := hbw.size
        have hol := outs_len a pre
        have hnb := HP.out.2
        have hsc := HP.out.1
        rw [hcs, List.flatMap_append] at hnb
        have hsz : s.size = (pre.flatMap encN).length + (post.flatMap encN).length := by rw [← nb_len, hnb, List.length_append]
        have HCS := Lib.hid hcs
        have HNB := Lib.hid hnb
        have HSC := Lib.hid hsc
        clear hrow hbw hnb hsc hcs
        obtain ⟨i, hi⟩ : ∃ i, (pre.flatMap encN).length = i := ⟨_, rfl⟩
        have HII := Lib.hid hi
        rw [hi] at hsz hol
        rw [hi]
        clear hi
        cases post with
        | nil =>
          simp only [List.flatMap_nil, List.length_nil, Nat.add_zero] at hsz
          subst hsz
          go_wp2_with (refine wp_new rfl _ _ rfl w.heap.size _ (34 :: outs a pre) [34] w rfl HROW.out HBW.out 1 _ rfl (by simp) (by rfl) (by simp; omega) hwz ?_; intro v3 w3 HR2 HB2)
          go_ret
          refine ⟨v3, rfl, ?_, HB2.out⟩
          have hcs := HCS.out
          rw [List.append_nil] at hcs
          rw [hcs]
          exact HR2.out
        | cons c rest =>
          have hSc : Sc c := HSC.out c (by rw [HCS.out]; simp)
          have hc11 : c ≤ 1114111 := by unfold Sc at hSc; omega
          have hm := encN_len c
          rw [List.flatMap_cons] at HNB
          rw [List.flatMap_cons, List.length_append] at hsz
          have H32 := fun W => Lib.hid (decAt s (pre.flatMap encN) (rest.flatMap encN) c i hSc HNB.out HII.out (by omega) W)
          obtain ⟨m, hm0⟩ : ∃ m, (encN c).length = m := ⟨_, rfl⟩
          have HM := Lib.hid hm0
          have HC30 := fun W => Lib.hid (can30 c a hc11 W)
          obtain ⟨v, hv⟩ : ∃ v, can a c = v := ⟨_, rfl⟩
          have HV := Lib.hid hv
          simp only [hv] at HC30
          simp only [hm0] at H32
          rw [hm0] at hm hsz
          have HRS : Hid ((rest.flatMap encN).length = s.size - (i + m)) := Lib.hid (by omega)
          have hm1 := hm.1
          have hm4 := hm.2
          have him : i + m ≤ s.size := by omega
          have HSCC := Lib.hid hSc
          clear hv hm0 hm hsz hSc
          cases v with
          | true =>
            go_wp2_with (first
              | (go_at_call 30; (with_reducible refine (HC30 _).out.mono ?_); rintro _ _ ⟨rfl, rfl⟩)
              | (go_at_call 32; (with_reducible refine (H32 _).out.mono ?_); rintro _ _ ⟨rfl, rfl⟩))
            go_loop [11, 13, 14] (fun i3 _ _ => ∃ mid post2 : List Nat, rest = mid ++ post2 ∧ (∀ d ∈ mid, can a d = true) ∧ i3 = .int .i64 ((i + m + (mid.flatMap encN).length : Nat) : Int)) (fun i3 _ _ => s.size - (jq i3).toNat)
            case atStart => exact ⟨[], rest, rfl, fun d hd => absurd hd (by simp), by go_num⟩
            case round =>
              obtain ⟨mid, post2, hrest, hmid, rfl⟩ := hrel
              have HMID := Lib.hid hmid
              have hk : (rest.flatMap encN).length = (mid.flatMap encN).length + (post2.flatMap encN).length := by rw [hrest, List.flatMap_append, List.length_append]
              obtain ⟨k, hk0⟩ : ∃ k, (mid.flatMap encN).length = k := ⟨_, rfl⟩
              have HK := Lib.hid hk0
              rw [hk0] at hk
              rw [HRS.out] at hk
              rw [hk0]
              have HREST := Lib.hid hrest
              have HMS : Hid (nb (s.extract i (i + m + k)) = encN c ++ mid.flatMap encN) := Lib.hid (mid_text s (pre.flatMap encN) (encN c) (mid.flatMap encN) (post2.flatMap encN) i m k (by rw [HNB.out, HREST.out, List.flatMap_append]) HII.out HM.out HK.out)
              have HLP : Hid (((pre ++ c :: mid).flatMap encN).length = i + m + k) := Lib.hid (by rw [List.flatMap_append, List.flatMap_cons, List.length_append, List.length_append, HII.out, HM.out, HK.out]; omega)
              have HLM : Hid ((encN c ++ mid.flatMap encN).length = m + k) := Lib.hid (by rw [List.length_append, HM.out, HK.out])
              clear hmid hk0 hrest
              have fin : ∀ v' w', Hid (Row w.heap.size v' ((34 :: outs a pre) ++ (encN c ++ mid.flatMap encN)) w') → Row w.heap.size v' (34 :: outs a (pre ++ c :: mid)) w' := fun v' w' h => by
                have := h.out
                rw [outs_app, show c :: mid = [c] ++ mid from rfl, outs_app, outs_one, toks_can a c HV.out, pre_can a mid HMID.out]
                exact this
              cases post2 with
              | nil =>
                simp only [List.flatMap_nil, List.length_nil, Nat.add_zero] at hk
                go_wp2_with (refine wp_str rfl _ _ rfl w.heap.size _ (34 :: outs a pre) (encN c ++ mid.flatMap encN) w rfl HROW.out HBW.out _ rfl HMS.out (by rw [HLM.out]; simp; omega) hwz ?_; intro v3 w3 HR2 HB2)
                go_roundw
                case rel => exact ⟨pre ++ c :: mid, [], by rw [HCS.out, HREST.out]; simp, by rw [HLP.out]; go_num, fin _ _ HR2, HB2.out⟩
                case measure => simp [jq]; omega
              | cons d r2 =>
                have hSd : Sc d := HSC.out d (by rw [HCS.out, HREST.out]; simp)
                have hd11 : d ≤ 1114111 := by unfold Sc at hSd; omega
                have hdl := encN_len d
                have H32d := fun W => Lib.hid (decAt s (pre.flatMap encN ++ (encN c ++ mid.flatMap encN)) (r2.flatMap encN) d (i + m + k) hSd (by rw [HNB.out, HREST.out, List.flatMap_append, List.flatMap_cons]; simp) (by rw [List.length_append, HLM.out, HII.out]; omega) (by omega) W)
                rw [List.flatMap_cons, List.length_append] at hk
                obtain ⟨md, hm0⟩ : ∃ md, (encN d).length = md := ⟨_, rfl⟩
                have HMD := Lib.hid hm0
                have HD30 := fun W => Lib.hid (can30 d a hd11 W)
                obtain ⟨vd, hvd⟩ : ∃ v, can a d = v := ⟨_, rfl⟩
                have HVD := Lib.hid hvd
                simp only [hvd] at HD30
                simp only [hm0] at H32d
                rw [hm0] at hdl hk
                have hd1 := hdl.1
                have hd4 := hdl.2
                have hkd : i + m + k + md ≤ s.size := by omega
                clear hvd hm0 hdl hSd hk
                cases vd with
                | true =>
                  go_wp2_with (first
                    | (go_at_call 30; (with_reducible refine (HD30 _).out.mono ?_); rintro _ _ ⟨rfl, rfl⟩)
                    | (go_at_call 32; (with_reducible refine (H32d _).out.mono ?_); rintro _ _ ⟨rfl, rfl⟩))
                  go_round
                  case rel => exact ⟨mid ++ [d], r2, by rw [HREST.out]; simp, fun e he => by
                    rw [List.mem_append, List.mem_singleton] at he
                    rcases he with he | rfl
                    · exact HMID.out e he
                    · exact HVD.out, by rw [List.flatMap_append, List.length_append, HK.out, List.flatMap_cons, List.flatMap_nil, List.append_nil, HMD.out]; go_num⟩
                  case measure => simp [jq]; omega
                | false =>
                  go_wp2_with (first
                    | (go_at_call 30; (with_reducible refine (HD30 _).out.mono ?_); rintro _ _ ⟨rfl, rfl⟩)
                    | (go_at_call 32; (with_reducible refine (H32d _).out.mono ?_); rintro _ _ ⟨rfl, rfl⟩)
                    | (refine wp_str rfl _ _ rfl w.heap.size _ (34 :: outs a pre) (encN c ++ mid.flatMap encN) w rfl HROW.out HBW.out _ rfl HMS.out (by rw [HLM.out]; simp; omega) hwz ?_; intro v3 w3 HR2 HB2))
                  go_roundw
                  case rel => exact ⟨pre ++ c :: mid, d :: r2, by rw [HCS.out, HREST.out]; simp, by rw [HLP.out]; go_num, fin _ _ HR2, HB2.out⟩
                  case measure => simp [jq]; omega
          | false =>
            have h39 := not_can a c HV.out
            have HPC : Hid (pre ++ c :: rest = (pre ++ [c]) ++ rest) := Lib.hid (by simp)
            have HLP : Hid (((pre ++ [c]).flatMap encN).length = i + m) := Lib.hid (by rw [List.flatMap_append, List.length_append, HII.out, List.flatMap_cons, List.flatMap_nil, List.append_nil, HM.out])
            have hcf : ¬ can a c = true := by rw [HV.out]; simp
            by_cases h2 : c = 8 ∨ c = 12 ∨ c = 10 ∨ c = 13 ∨ c = 9 ∨ c = 92 ∨ c = 34
            · rcases h2 with h2 | h2 | h2 | h2 | h2 | h2 | h2
              · as_aux_lemma =>
                clear h39
                have c0 : ((c : Int) == 8) = true := by simp; omega
                have HO : Hid ((toks a c).flatMap Tk.bs = [92, 98]) := Lib.hid (by subst h2; unfold toks; rw [if_neg hcf]; rfl)
                have HM1 : Hid (m = 1) := Lib.hid (by rw [← HM.out, h2]; rfl)
                clear h2 hcf
                go_wp2_with (first
                  | (go_at_call 30; (with_reducible refine (HC30 _).out.mono ?_); rintro _ _ ⟨rfl, rfl⟩)
                  | (go_at_call 32; (with_reducible refine (H32 _).out.mono ?_); rintro _ _ ⟨rfl, rfl⟩)
                  | (refine wp_str rfl _ _ rfl w.heap.size _ (34 :: outs a pre) [92, 98] w rfl HROW.out HBW.out _ rfl (by rfl) (by simp; omega) hwz ?_; intro v3 w3 HR2 HB2))
                go_roundw
                case rel => exact ⟨pre ++ [c], rest, by rw [HCS.out, HPC.out], by rw [HLP.out, HM1.out]; go_num, by rw [pre_out a pre c _ HO.out]; exact HR2.out, HB2.out⟩
                case measure => simp [jq]; omega
              · as_aux_lemma =>
                clear h39
                have c0 : ((c : Int) == 8) = false := by simp; omega
                have c1 : ((c : Int) == 12) = true := by simp; omega
                have HO : Hid ((toks a c).flatMap Tk.bs = [92, 102]) := Lib.hid (by subst h2; unfold toks; rw [if_neg hcf]; rfl)
                have HM1 : Hid (m = 1) := Lib.hid (by rw [← HM.out, h2]; rfl)
                clear h2 hcf
                go_wp2_with (first
                  | (go_at_call 30; (with_reducible refine (HC30 _).out.mono ?_); rintro _ _ ⟨rfl, rfl⟩)
                  | (go_at_call 32; (with_reducible refine (H32 _).out.mono ?_); rintro _ _ ⟨rfl, rfl⟩)
                  | (refine wp_str rfl _ _ rfl w.heap.size _ (34 :: outs a pre) [92, 102] w rfl HROW.out HBW.out _ rfl (by rfl) (by simp; omega) hwz ?_; intro v3 w3 HR2 HB2))
                go_roundw
                case rel => exact ⟨pre ++ [c], rest, by rw [HCS.out, HPC.out], by rw [HLP.out, HM1.out]; go_num, by rw [pre_out a pre c _ HO.out]; exact HR2.out, HB2.out⟩
                case measure => simp [jq]; omega
              · as_aux_lemma =>
                clear h39
                have c0 : ((c : Int) == 8) = false := by simp; omega
                have c1 : ((c : Int) == 12) = false := by simp; omega
                have c2 : ((c : Int) == 10) = true := by simp; omega
                have HO : Hid ((toks a c).flatMap Tk.bs = [92, 110]) := Lib.hid (by subst h2; unfold toks; rw [if_neg hcf]; rfl)
                have HM1 : Hid (m = 1) := Lib.hid (by rw [← HM.out, h2]; rfl)
                clear h2 hcf
                go_wp2_with (first
                  | (go_at_call 30; (with_reducible refine (HC30 _).out.mono ?_); rintro _ _ ⟨rfl, rfl⟩)
                  | (go_at_call 32; (with_reducible refine (H32 _).out.mono ?_); rintro _ _ ⟨rfl, rfl⟩)
                  | (refine wp_str rfl _ _ rfl w.heap.size _ (34 :: outs a pre) [92, 110] w rfl HROW.out HBW.out _ rfl (by rfl) (by simp; omega) hwz ?_; intro v3 w3 HR2 HB2))
                go_roundw
                case rel => exact ⟨pre ++ [c], rest, by rw [HCS.out, HPC.out], by rw [HLP.out, HM1.out]; go_num, by rw [pre_out a pre c _ HO.out]; exact HR2.out, HB2.out⟩
                case measure => simp [jq]; omega
              · as_aux_lemma =>
                clear h39
                have c0 : ((c : Int) == 8) = false := by simp; omega
                have c1 : ((c : Int) == 12) = false := by simp; omega
                have c2 : ((c : Int) == 10) = false := by simp; omega
                have c3 : ((c : Int) == 13) = true := by simp; omega
                have HO : Hid ((toks a c).flatMap Tk.bs = [92, 114]) := Lib.hid (by subst h2; unfold toks; rw [if_neg hcf]; rfl)
                have HM1 : Hid (m = 1) := Lib.hid (by rw [← HM.out, h2]; rfl)
                clear h2 hcf
                go_wp2_with (first
                  | (go_at_call 30; (with_reducible refine (HC30 _).out.mono ?_); rintro _ _ ⟨rfl, rfl⟩)
                  | (go_at_call 32; (with_reducible refine (H32 _).out.mono ?_); rintro _ _ ⟨rfl, rfl⟩)
                  | (refine wp_str rfl _ _ rfl w.heap.size _ (34 :: outs a pre) [92, 114] w rfl HROW.out HBW.out _ rfl (by rfl) (by simp; omega) hwz ?_; intro v3 w3 HR2 HB2))
                go_roundw
                case rel => exact ⟨pre ++ [c], rest, by rw [HCS.out, HPC.out], by rw [HLP.out, HM1.out]; go_num, by rw [pre_out a pre c _ HO.out]; exact HR2.out, HB2.out⟩
                case measure => simp [jq]; omega
              · as_aux_lemma =>
                clear h39
                have c0 : ((c : Int) == 8) = false := by simp; omega
                have c1 : ((c : Int) == 12) = false := by simp; omega
                have c2 : ((c : Int) == 10) = false := by simp; omega
                have c3 : ((c : Int) == 13) = false := by simp; omega
                have c4 : ((c : Int) == 9) = true := by simp; omega
                have HO : Hid ((toks a c).flatMap Tk.bs = [92, 116]) := Lib.hid (by subst h2; unfold toks; rw [if_neg hcf]; rfl)
                have HM1 : Hid (m = 1) := Lib.hid (by rw [← HM.out, h2]; rfl)
                clear h2 hcf
                go_wp2_with (first
                  | (go_at_call 30; (with_reducible refine (HC30 _).out.mono ?_); rintro _ _ ⟨rfl, rfl⟩)
                  | (go_at_call 32; (with_reducible refine (H32 _).out.mono ?_); rintro _ _ ⟨rfl, rfl⟩)
                  | (refine wp_str rfl _ _ rfl w.heap.size _ (34 :: outs a pre) [92, 116] w rfl HROW.out HBW.out _ rfl (by rfl) (by simp; omega) hwz ?_; intro v3 w3 HR2 HB2))
                go_roundw
                case rel => exact ⟨pre ++ [c], rest, by rw [HCS.out, HPC.out], by rw [HLP.out, HM1.out]; go_num, by rw [pre_out a pre c _ HO.out]; exact HR2.out, HB2.out⟩
                case measure => simp [jq]; omega
              · as_aux_lemma =>
                clear h39
                have c0 : ((c : Int) == 8) = false := by simp; omega
                have c1 : ((c : Int) == 12) = false := by simp; omega
                have c2 : ((c : Int) == 10) = false := by simp; omega
                have c3 : ((c : Int) == 13) = false := by simp; omega
                have c4 : ((c : Int) == 9) = false := by simp; omega
                have c5 : ((c : Int) == 92) = true := by simp; omega
                have HO : Hid ((toks a c).flatMap Tk.bs = [92, 92]) := Lib.hid (by subst h2; unfold toks; rw [if_neg hcf]; rfl)
                have HM1 : Hid (m = 1) := Lib.hid (by rw [← HM.out, h2]; rfl)
                clear h2 hcf
                go_wp2_with (first
                  | (go_at_call 30; (with_reducible refine (HC30 _).out.mono ?_); rintro _ _ ⟨rfl, rfl⟩)
                  | (go_at_call 32; (with_reducible refine (H32 _).out.mono ?_); rintro _ _ ⟨rfl, rfl⟩)
                  | (refine wp_str rfl _ _ rfl w.heap.size _ (34 :: outs a pre) [92, 92] w rfl HROW.out HBW.out _ rfl (by rfl) (by simp; omega) hwz ?_; intro v3 w3 HR2 HB2))
                go_roundw
                case rel => exact ⟨pre ++ [c], rest, by rw [HCS.out, HPC.out], by rw [HLP.out, HM1.out]; go_num, by rw [pre_out a pre c _ HO.out]; exact HR2.out, HB2.out⟩
                case measure => simp [jq]; omega
              · as_aux_lemma =>
                clear h39
                have c0 : ((c : Int) == 8) = false := by simp; omega
                have c1 : ((c : Int) == 12) = false := by simp; omega
                have c2 : ((c : Int) == 10) = false := by simp; omega
                have c3 : ((c : Int) == 13) = false := by simp; omega
                have c4 : ((c : Int) == 9) = false := by simp; omega
                have c5 : ((c : Int) == 92) = false := by simp; omega
                have c6 : ((c : Int) == 34) = true := by simp; omega
                have HO : Hid ((toks a c).flatMap Tk.bs = [92, 34]) := Lib.hid (by subst h2; unfold toks; rw [if_neg hcf]; rfl)
                have HM1 : Hid (m = 1) := Lib.hid (by rw [← HM.out, h2]; rfl)
                clear h2 hcf
                go_wp2_with (first
                  | (go_at_call 30; (with_reducible refine (HC30 _).out.mono ?_); rintro _ _ ⟨rfl, rfl⟩)
                  | (go_at_call 32; (with_reducible refine (H32 _).out.mono ?_); rintro _ _ ⟨rfl, rfl⟩)
                  | (refine wp_str rfl _ _ rfl w.heap.size _ (34 :: outs a pre) [92, 34] w rfl HROW.out HBW.out _ rfl (by rfl) (by simp; omega) hwz ?_; intro v3 w3 HR2 HB2))
                go_roundw
                case rel => exact ⟨pre ++ [c], rest, by rw [HCS.out, HPC.out], by rw [HLP.out, HM1.out]; go_num, by rw [pre_out a pre c _ HO.out]; exact HR2.out, HB2.out⟩
                case measure => simp [jq]; omega
            · have hx2 := h2
              clear h2
              have c0 : ((c : Int) == 8) = false := by simp; omega
              have c1 : ((c : Int) == 12) = false := by simp; omega
              have c2 : ((c : Int) == 10) = false := by simp; omega
              have c3 : ((c : Int) == 13) = false := by simp; omega
              have c4 : ((c : Int) == 9) = false := by simp; omega
              have c5 : ((c : Int) == 92) = false := by simp; omega
              have c6 : ((c : Int) == 34) = false := by simp; omega
              have c7 : ((c : Int) == 39) = false := by simp; omega
              have HX2 := Lib.hid hx2
              clear hx2 h39
              by_cases h6 : c < 65536
              · as_aux_lemma =>
                have HO : Hid ((toks a c).flatMap Tk.bs = hex4 c) := Lib.hid (by
                  have := HX2.out
                  unfold toks
                  rw [if_neg hcf, if_neg (by omega), if_neg (by omega), if_neg (by omega), if_neg (by omega), if_neg (by omega), if_neg (by omega), if_neg (by omega), if_pos h6]
                  simp [Tk.bs])
                clear hcf
                obtain ⟨y0, hy0⟩ : ∃ y, y = c / 4096 := ⟨_, rfl⟩
                obtain ⟨z1, hz1'⟩ : ∃ y, y = c / 256 := ⟨_, rfl⟩
                obtain ⟨y1, hy1⟩ : ∃ y, y = z1 % 16 := ⟨_, rfl⟩
                obtain ⟨z2, hz2'⟩ : ∃ y, y = c / 16 := ⟨_, rfl⟩
                obtain ⟨y2, hy2⟩ : ∃ y, y = z2 % 16 := ⟨_, rfl⟩
                obtain ⟨y3, hy3⟩ : ∃ y, y = c % 16 := ⟨_, rfl⟩
                have e0 : (c : Int) / 4096 = (y0 : Int) := by omega
                have e1 : (c : Int) / 256 = (z1 : Int) := by omega
                have e2 : (c : Int) / 16 = (z2 : Int) := by omega
                have e3 : bits .and .i32 (z1 : Int) 15 = (y1 : Int) := by rw [hy1]; exact m_lo32 z1 4 15 (by decide) (by omega) (by decide)
                have e4 : bits .and .i32 (z2 : Int) 15 = (y2 : Int) := by rw [hy2]; exact m_lo32 z2 4 15 (by decide) (by omega) (by decide)
                have e5 : bits .and .i32 (c : Int) 15 = (y3 : Int) := by rw [hy3]; exact m_lo32 c 4 15 (by decide) (by omega) (by decide)
                have HH : Hid (hex4 c = [92, 117, hexU y0, hexU y1, hexU y2, hexU y3]) := Lib.hid (by unfold hex4; rw [hy0, hy1, hy2, hy3, hz1', hz2'])
                have l0 : y0 < 16 := by omega
                have l1 : y1 < 16 := by omega
                have l2 : y2 < 16 := by omega
                have l3 : y3 < 16 := by omega
                clear hy0 hz1' hy1 hz2' hy2 hy3
                have gy0 : (y0 : Int) < 16 := by omega
                have gy1 : (y1 : Int) < 16 := by omega
                have gy2 : (y2 : Int) < 16 := by omega
                have gy3 : (y3 : Int) < 16 := by omega
                go_wp2_with (first
                  | (go_at_call 30; (with_reducible refine (HC30 _).out.mono ?_); rintro _ _ ⟨rfl, rfl⟩)
                  | (go_at_call 32; (with_reducible refine (H32 _).out.mono ?_); rintro _ _ ⟨rfl, rfl⟩))
                refine wp_region_any (by kernel_rfl) ?_
                change wpAny _ _ _ _ 18 _ _ wr.drew
                refine wpAny_take (i := 0) (oi := ?oi0) (v := ?vv0) ?ho0 (by kernel_rfl) (by kernel_rfl) (by kernel_rfl) ?hQ0 ?hy0 ?rest0
                case ho0 => (simp only [List.getElem?_toArray, List.getElem?_cons_succ, List.getElem?_cons_zero]; rfl)
                case hQ0 => exact fun _ _ _ h => h
                case hy0 => exact Or.inl ⟨by rfl, fun W => by go_simp; rfl⟩
                try simp only [Act.put, List.setIfInBounds_toArray, List.set_cons_zero, List.set_cons_succ]
                refine wpAny_take (i := 1) (oi := ?oi1) (v := ?vv1) ?ho1 (by kernel_rfl) (by kernel_rfl) (by kernel_rfl) ?hQ1 ?hy1 ?rest1
                case ho1 => (simp only [List.getElem?_toArray, List.getElem?_cons_succ, List.getElem?_cons_zero]; rfl)
                case hQ1 => exact fun _ _ _ h => h
                case hy1 => exact Or.inl ⟨by rfl, fun W => by go_simp; rfl⟩
                try simp only [Act.put, List.setIfInBounds_toArray, List.set_cons_zero, List.set_cons_succ]
                refine wpAny_take (i := 2) (oi := ?oi2) (v := ?vv2) ?ho2 (by kernel_rfl) (by kernel_rfl) (by kernel_rfl) ?hQ2 ?hy2 ?rest2
                case ho2 => (simp only [List.getElem?_toArray, List.getElem?_cons_succ, List.getElem?_cons_zero]; rfl)
                case hQ2 => exact fun _ _ _ h => h
                case hy2 => exact Or.inl ⟨by rfl, fun W => by go_simp; rfl⟩
                try simp only [Act.put, List.setIfInBounds_toArray, List.set_cons_zero, List.set_cons_succ]
                refine wpAny_take (i := 3) (oi := ?oi3) (v := ?vv3) ?ho3 (by kernel_rfl) (by kernel_rfl) (by kernel_rfl) ?hQ3 ?hy3 ?rest3
                case ho3 => (simp only [List.getElem?_toArray, List.getElem?_cons_succ, List.getElem?_cons_zero]; rfl)
                case hQ3 => exact fun _ _ _ h => h
                case hy3 => exact Or.inl ⟨by rfl, fun W => by go_simp; rfl⟩
                try simp only [Act.put, List.setIfInBounds_toArray, List.set_cons_zero, List.set_cons_succ]
                refine wpAny_take (i := 4) (oi := ?oi4) (v := ?vv4) ?ho4 (by kernel_rfl) (by kernel_rfl) (by kernel_rfl) ?hQ4 ?hy4 ?rest4
                case ho4 => (simp only [List.getElem?_toArray, List.getElem?_cons_succ, List.getElem?_cons_zero]; rfl)
                case hQ4 => exact fun _ _ _ h => h
                case hy4 => exact Or.inl ⟨by rfl, fun W => by go_simp; rfl⟩
                try simp only [Act.put, List.setIfInBounds_toArray, List.set_cons_zero, List.set_cons_succ]
                refine wpAny_take (i := 5) (oi := ?oi5) (v := ?vv5) ?ho5 (by kernel_rfl) (by kernel_rfl) (by kernel_rfl) ?hQ5 ?hy5 ?rest5
                case ho5 => (simp only [List.getElem?_toArray, List.getElem?_cons_succ, List.getElem?_cons_zero]; rfl)
                case hQ5 => exact fun _ _ _ h => h
                case hy5 => exact Or.inl ⟨by rfl, fun W => by go_simp; rfl⟩
                try simp only [Act.put, List.setIfInBounds_toArray, List.set_cons_zero, List.set_cons_succ]
                refine wpAny_take (i := 6) (oi := ?oi6) (v := ?vv6) ?ho6 (by kernel_rfl) (by kernel_rfl) (by kernel_rfl) ?hQ6 ?hy6 ?rest6
                case ho6 => (simp only [List.getElem?_toArray, List.getElem?_cons_succ, List.getElem?_cons_zero]; rfl)
                case hQ6 => exact fun _ _ _ h => h
                case hy6 => exact Or.inl ⟨by rfl, fun W => by go_simp; rfl⟩
                try simp only [Act.put, List.setIfInBounds_toArray, List.set_cons_zero, List.set_cons_succ]
                refine wpAny_take (i := 7) (oi := ?oi7) (v := ?vv7) ?ho7 (by kernel_rfl) (by kernel_rfl) (by kernel_rfl) ?hQ7 ?hy7 ?rest7
                case ho7 => (simp only [List.getElem?_toArray, List.getElem?_cons_succ, List.getElem?_cons_zero]; rfl)
                case hQ7 => exact fun _ _ _ h => h
                case hy7 => exact Or.inl ⟨by rfl, fun W => by go_simp; rfl⟩
                try simp only [Act.put, List.setIfInBounds_toArray, List.set_cons_zero, List.set_cons_succ]
                refine wpAny_take (i := 8) (oi := ?oi8) (v := ?vv8) ?ho8 (by kernel_rfl) (by kernel_rfl) (by kernel_rfl) ?hQ8 ?hy8 ?rest8
                case ho8 => (simp only [List.getElem?_toArray, List.getElem?_cons_succ, List.getElem?_cons_zero]; rfl)
                case hQ8 => exact fun _ _ _ h => h
                case hy8 => exact Or.inl ⟨by rfl, fun W => by go_simp; rfl⟩
                try simp only [Act.put, List.setIfInBounds_toArray, List.set_cons_zero, List.set_cons_succ]
                refine wpAny_take (i := 9) (oi := ?oi9) (v := ?vv9) ?ho9 (by kernel_rfl) (by kernel_rfl) (by kernel_rfl) ?hQ9 ?hy9 ?rest9
                case ho9 => (simp only [List.getElem?_toArray, List.getElem?_cons_succ, List.getElem?_cons_zero]; rfl)
                case hQ9 => exact fun _ _ _ h => h
                case hy9 => exact Or.inl ⟨by rfl, fun W => by go_simp; rfl⟩
                try simp only [Act.put, List.setIfInBounds_toArray, List.set_cons_zero, List.set_cons_succ]
                refine wpAny_take (i := 10) (oi := ?oi10) (v := ?vv10) ?ho10 (by kernel_rfl) (by kernel_rfl) (by kernel_rfl) ?hQ10 ?hy10 ?rest10
                case ho10 => (simp only [List.getElem?_toArray, List.getElem?_cons_succ, List.getElem?_cons_zero]; rfl)
                case hQ10 => exact fun _ _ _ h => h
                case hy10 => exact Or.inl ⟨by rfl, fun W => by go_simp; rfl⟩
                try simp only [Act.put, List.setIfInBounds_toArray, List.set_cons_zero, List.set_cons_succ]
                refine wpAny_take (i := 11) (oi := ?oi11) (v := ?vv11) ?ho11 (by kernel_rfl) (by kernel_rfl) (by kernel_rfl) ?hQ11 ?hy11 ?rest11
                case ho11 => (simp only [List.getElem?_toArray, List.getElem?_cons_succ, List.getElem?_cons_zero]; rfl)
                case hQ11 => exact fun _ _ _ h => h
                case hy11 => exact Or.inl ⟨by rfl, fun W => by go_simp; rfl⟩
                try simp only [Act.put, List.setIfInBounds_toArray, List.set_cons_zero, List.set_cons_succ]
                refine wpAny_take (i := 12) (oi := ?oi12) (v := ?vv12) ?ho12 (by kernel_rfl) (by kernel_rfl) (by kernel_rfl) ?hQ12 ?hy12 ?rest12
                case ho12 => (simp only [List.getElem?_toArray, List.getElem?_cons_succ, List.getElem?_cons_zero]; rfl)
                case hQ12 => exact fun _ _ _ h => h
                case hy12 => exact Or.inl ⟨by rfl, fun W => by go_simp; rfl⟩
                try simp only [Act.put, List.setIfInBounds_toArray, List.set_cons_zero, List.set_cons_succ]
                refine wpAny_take (i := 13) (oi := ?oi13) (v := ?vv13) ?ho13 (by kernel_rfl) (by kernel_rfl) (by kernel_rfl) ?hQ13 ?hy13 ?rest13
                case ho13 => (simp only [List.getElem?_toArray, List.getElem?_cons_succ, List.getElem?_cons_zero]; rfl)
                case hQ13 => exact fun _ _ _ h => h
                case hy13 => exact Or.inl ⟨by rfl, fun W => by go_simp; rfl⟩
                try simp only [Act.put, List.setIfInBounds_toArray, List.set_cons_zero, List.set_cons_succ]
                refine wpAny_take (i := 14) (oi := ?oi14) (v := ?vv14) ?ho14 (by kernel_rfl) (by kernel_rfl) (by kernel_rfl) ?hQ14 ?hy14 ?rest14
                case ho14 => (simp only [List.getElem?_toArray, List.getElem?_cons_succ, List.getElem?_cons_zero]; rfl)
                case hQ14 => exact fun _ _ _ h => h
                case hy14 => exact Or.inl ⟨by rfl, fun W => by go_simp; rfl⟩
                try simp only [Act.put, List.setIfInBounds_toArray, List.set_cons_zero, List.set_cons_succ]
                refine wpAny_ready (rs := [15]) (by kernel_rfl) (by simp) ?_
                refine AllReady.cons (o := ?oo1) ?hoo1 (fun K hK => ?kk1) AllReady.nil
                case hoo1 => (simp only [List.getElem?_toArray, List.getElem?_cons_succ, List.getElem?_cons_zero]; rfl)
                refine step_build6 rfl _ _ _ _ _ _ _ _ _ _ _ _ rfl rfl rfl rfl rfl rfl rfl ?_
                refine hK _ _ ?_
                clear hK K
                try simp only [Act.put, List.setIfInBounds_toArray, List.set_cons_zero, List.set_cons_succ]
                refine wpAny_ready (rs := [16]) (by kernel_rfl) (by simp) ?_
                refine AllReady.cons (o := ?oo2) ?hoo2 (fun K hK => ?kk2) AllReady.nil
                case hoo2 => (simp only [List.getElem?_toArray, List.getElem?_cons_succ, List.getElem?_cons_zero]; rfl)
                refine step_newD rfl _ _ rfl w.heap.size _ (34 :: outs a pre) [92, 117, hexU y0, hexU y1, hexU y2, hexU y3] w rfl HROW.out HBW.out 6 _ rfl (by simp) (cl_hex y0 y1 y2 y3 l0 l1 l2 l3) (by simp; omega) hwz ?_
                intro v3 w3 HR2 HB2
                refine hK _ _ ?_
                clear hK K
                try simp only [Act.put, List.setIfInBounds_toArray, List.set_cons_zero, List.set_cons_succ]
                refine wpAny_take (i := 17) (oi := ?oi17) (v := ?vv17) ?ho17 (by kernel_rfl) (by kernel_rfl) (by kernel_rfl) ?hQ17 ?hy17 ?rest17
                case ho17 => (simp only [List.getElem?_toArray, List.getElem?_cons_succ, List.getElem?_cons_zero]; rfl)
                case hQ17 => exact fun _ _ _ h => h
                case hy17 => exact Or.inl ⟨by rfl, fun W => by go_simp; rfl⟩
                try simp only [Act.put, List.setIfInBounds_toArray, List.set_cons_zero, List.set_cons_succ]
                refine wpAny_done (by kernel_rfl) ?_ _
                go_wp2_with fail
                go_roundw
                case rel => exact ⟨pre ++ [c], rest, by rw [HCS.out, HPC.out], by rw [HLP.out]; go_num, by rw [pre_out a pre c _ (HO.out.trans HH.out)]; exact HR2.out, HB2.out⟩
                case measure => simp [jq]; omega
              · as_aux_lemma =>
                have HO : Hid ((toks a c).flatMap Tk.bs = hex4 (55296 + (c - 65536) / 1024) ++ hex4 (56320 + (c - 65536) % 1024)) := Lib.hid (by
                  have := HX2.out
                  unfold toks
                  rw [if_neg hcf, if_neg (by omega), if_neg (by omega), if_neg (by omega), if_neg (by omega), if_neg (by omega), if_neg (by omega), if_neg (by omega), if_neg h6]
                  simp [Tk.bs])
                clear hcf
                obtain ⟨u, hu⟩ : ∃ u, u = c - 65536 := ⟨_, rfl⟩
                obtain ⟨x1, hx1⟩ : ∃ y, y = u / 1024 := ⟨_, rfl⟩
                obtain ⟨x2, hx2⟩ : ∃ y, y = u % 1024 := ⟨_, rfl⟩
                have hcu : (c : Int) - 65536 = (u : Int) := by omega
                have hu20 : u < 1048576 := by omega
                have e0 : (u : Int) / 1024 = (x1 : Int) := by omega
                have e1 : bits .and .i32 (x1 : Int) 1023 = (x1 : Int) := by have q := m_lo32 x1 10 1023 (by decide) (by omega) (by decide); rwa [Nat.mod_eq_of_lt (by omega)] at q
                have e2 : bits .and .i32 (u : Int) 1023 = (x2 : Int) := by rw [hx2]; exact m_lo32 u 10 1023 (by decide) (by omega) (by decide)
                obtain ⟨p, hp⟩ : ∃ p, p = 55296 + x1 := ⟨_, rfl⟩
                obtain ⟨q, hq⟩ : ∃ p, p = 56320 + x2 := ⟨_, rfl⟩
                have e3 : 55296 + (x1 : Int) = (p : Int) := by omega
                have e4 : 56320 + (x2 : Int) = (q : Int) := by omega
                have HHH : Hid (hex4 (55296 + (c - 65536) / 1024) ++ hex4 (56320 + (c - 65536) % 1024) = hex4 p ++ hex4 q) := Lib.hid (by rw [hp, hq, hx1, hx2, hu])
                have lx1 : x1 < 1024 := by omega
                have lx2 : x2 < 1024 := by omega
                have lp : p < 65536 := by omega
                have lq : q < 65536 := by omega
                clear hu hx1 hx2 hp hq
                obtain ⟨py0, hy0⟩ : ∃ y, y = p / 4096 := ⟨_, rfl⟩
                obtain ⟨pz1, hz1'⟩ : ∃ y, y = p / 256 := ⟨_, rfl⟩
                obtain ⟨py1, hy1⟩ : ∃ y, y = pz1 % 16 := ⟨_, rfl⟩
                obtain ⟨pz2, hz2'⟩ : ∃ y, y = p / 16 := ⟨_, rfl⟩
                obtain ⟨py2, hy2⟩ : ∃ y, y = pz2 % 16 := ⟨_, rfl⟩
                obtain ⟨py3, hy3⟩ : ∃ y, y = p % 16 := ⟨_, rfl⟩
                have pe0 : (p : Int) / 4096 = (py0 : Int) := by omega
                have pe1 : (p : Int) / 256 = (pz1 : Int) := by omega
                have pe2 : (p : Int) / 16 = (pz2 : Int) := by omega
                have pe3 : bits .and .i32 (pz1 : Int) 15 = (py1 : Int) := by rw [hy1]; exact m_lo32 pz1 4 15 (by decide) (by omega) (by decide)
                have pe4 : bits .and .i32 (pz2 : Int) 15 = (py2 : Int) := by rw [hy2]; exact m_lo32 pz2 4 15 (by decide) (by omega) (by decide)
                have pe5 : bits .and .i32 (p : Int) 15 = (py3 : Int) := by rw [hy3]; exact m_lo32 p 4 15 (by decide) (by omega) (by decide)
                have pHH : Hid (hex4 p = [92, 117, hexU py0, hexU py1, hexU py2, hexU py3]) := Lib.hid (by unfold hex4; rw [hy0, hy1, hy2, hy3, hz1', hz2'])
                have pl0 : py0 < 16 := by omega
                have pl1 : py1 < 16 := by omega
                have pl2 : py2 < 16 := by omega
                have pl3 : py3 < 16 := by omega
                clear hy0 hz1' hy1 hz2' hy2 hy3
                obtain ⟨qy0, hy0⟩ : ∃ y, y = q / 4096 := ⟨_, rfl⟩
                obtain ⟨qz1, hz1'⟩ : ∃ y, y = q / 256 := ⟨_, rfl⟩
                obtain ⟨qy1, hy1⟩ : ∃ y, y = qz1 % 16 := ⟨_, rfl⟩
                obtain ⟨qz2, hz2'⟩ : ∃ y, y = q / 16 := ⟨_, rfl⟩
                obtain ⟨qy2, hy2⟩ : ∃ y, y = qz2 % 16 := ⟨_, rfl⟩
                obtain ⟨qy3, hy3⟩ : ∃ y, y = q % 16 := ⟨_, rfl⟩
                have qe0 : (q : Int) / 4096 = (qy0 : Int) := by omega
                have qe1 : (q : Int) / 256 = (qz1 : Int) := by omega
                have qe2 : (q : Int) / 16 = (qz2 : Int) := by omega
                have qe3 : bits .and .i32 (qz1 : Int) 15 = (qy1 : Int) := by rw [hy1]; exact m_lo32 qz1 4 15 (by decide) (by omega) (by decide)
                have qe4 : bits .and .i32 (qz2 : Int) 15 = (qy2 : Int) := by rw [hy2]; exact m_lo32 qz2 4 15 (by decide) (by omega) (by decide)
                have qe5 : bits .and .i32 (q : Int) 15 = (qy3 : Int) := by rw [hy3]; exact m_lo32 q 4 15 (by decide) (by omega) (by decide)
                have qHH : Hid (hex4 q = [92, 117, hexU qy0, hexU qy1, hexU qy2, hexU qy3]) := Lib.hid (by unfold hex4; rw [hy0, hy1, hy2, hy3, hz1', hz2'])
                have ql0 : qy0 < 16 := by omega
                have ql1 : qy1 < 16 := by omega
                have ql2 : qy2 < 16 := by omega
                have ql3 : qy3 < 16 := by omega
                clear hy0 hz1' hy1 hz2' hy2 hy3
                have HOO : Hid ((toks a c).flatMap Tk.bs = [92, 117, hexU py0, hexU py1, hexU py2, hexU py3] ++ [92, 117, hexU qy0, hexU qy1, hexU qy2, hexU qy3]) := Lib.hid (by rw [HO.out, HHH.out, pHH.out, qHH.out])
                have gpy0 : (py0 : Int) < 16 := by omega
                have gpy1 : (py1 : Int) < 16 := by omega
                have gpy2 : (py2 : Int) < 16 := by omega
                have gpy3 : (py3 : Int) < 16 := by omega
                have gqy0 : (qy0 : Int) < 16 := by omega
                have gqy1 : (qy1 : Int) < 16 := by omega
                have gqy2 : (qy2 : Int) < 16 := by omega
                have gqy3 : (qy3 : Int) < 16 := by omega
                go_wp2_with (first
                  | (go_at_call 30; (with_reducible refine (HC30 _).out.mono ?_); rintro _ _ ⟨rfl, rfl⟩)
                  | (go_at_call 32; (with_reducible refine (H32 _).out.mono ?_); rintro _ _ ⟨rfl, rfl⟩))
                refine wp_region_any (by kernel_rfl) ?_
                change wpAny _ _ _ _ 32 _ _ wr.drew
                refine wpAny_take (i := 0) (oi := ?oiB0) (v := ?vvB0) ?hoB0 (by kernel_rfl) (by kernel_rfl) (by kernel_rfl) ?hQB0 ?hyB0 ?restB0
                case hoB0 => (simp only [List.getElem?_toArray, List.getElem?_cons_succ, List.getElem?_cons_zero]; rfl)
                case hQB0 => exact fun _ _ _ h => h
                case hyB0 => exact Or.inl ⟨by rfl, fun W => by go_simp; rfl⟩
                try simp only [Act.put, List.setIfInBounds_toArray, List.set_cons_zero, List.set_cons_succ]
                refine wpAny_take (i := 1) (oi := ?oiB1) (v := ?vvB1) ?hoB1 (by kernel_rfl) (by kernel_rfl) (by kernel_rfl) ?hQB1 ?hyB1 ?restB1
                case hoB1 => (simp only [List.getElem?_toArray, List.getElem?_cons_succ, List.getElem?_cons_zero]; rfl)
                case hQB1 => exact fun _ _ _ h => h
                case hyB1 => exact Or.inl ⟨by rfl, fun W => by go_simp; rfl⟩
                try simp only [Act.put, List.setIfInBounds_toArray, List.set_cons_zero, List.set_cons_succ]
                refine wpAny_take (i := 2) (oi := ?oiB2) (v := ?vvB2) ?hoB2 (by kernel_rfl) (by kernel_rfl) (by kernel_rfl) ?hQB2 ?hyB2 ?restB2
                case hoB2 => (simp only [List.getElem?_toArray, List.getElem?_cons_succ, List.getElem?_cons_zero]; rfl)
                case hQB2 => exact fun _ _ _ h => h
                case hyB2 => exact Or.inl ⟨by rfl, fun W => by go_simp; rfl⟩
                try simp only [Act.put, List.setIfInBounds_toArray, List.set_cons_zero, List.set_cons_succ]
                refine wpAny_take (i := 3) (oi := ?oiB3) (v := ?vvB3) ?hoB3 (by kernel_rfl) (by kernel_rfl) (by kernel_rfl) ?hQB3 ?hyB3 ?restB3
                case hoB3 => (simp only [List.getElem?_toArray, List.getElem?_cons_succ, List.getElem?_cons_zero]; rfl)
                case hQB3 => exact fun _ _ _ h => h
                case hyB3 => exact Or.inl ⟨by rfl, fun W => by go_simp; rfl⟩
                try simp only [Act.put, List.setIfInBounds_toArray, List.set_cons_zero, List.set_cons_succ]
                refine wpAny_take (i := 4) (oi := ?oiB4) (v := ?vvB4) ?hoB4 (by kernel_rfl) (by kernel_rfl) (by kernel_rfl) ?hQB4 ?hyB4 ?restB4
                case hoB4 => (simp only [List.getElem?_toArray, List.getElem?_cons_succ, List.getElem?_cons_zero]; rfl)
                case hQB4 => exact fun _ _ _ h => h
                case hyB4 => exact Or.inl ⟨by rfl, fun W => by go_simp; rfl⟩
                try simp only [Act.put, List.setIfInBounds_toArray, List.set_cons_zero, List.set_cons_succ]
                refine wpAny_take (i := 5) (oi := ?oiB5) (v := ?vvB5) ?hoB5 (by kernel_rfl) (by kernel_rfl) (by kernel_rfl) ?hQB5 ?hyB5 ?restB5
                case hoB5 => (simp only [List.getElem?_toArray, List.getElem?_cons_succ, List.getElem?_cons_zero]; rfl)
                case hQB5 => exact fun _ _ _ h => h
                case hyB5 => exact Or.inl ⟨by rfl, fun W => by go_simp; rfl⟩
                try simp only [Act.put, List.setIfInBounds_toArray, List.set_cons_zero, List.set_cons_succ]
                refine wpAny_take (i := 6) (oi := ?oiB6) (v := ?vvB6) ?hoB6 (by kernel_rfl) (by kernel_rfl) (by kernel_rfl) ?hQB6 ?hyB6 ?restB6
                case hoB6 => (simp only [List.getElem?_toArray, List.getElem?_cons_succ, List.getElem?_cons_zero]; rfl)
                case hQB6 => exact fun _ _ _ h => h
                case hyB6 => exact Or.inl ⟨by rfl, fun W => by go_simp; rfl⟩
                try simp only [Act.put, List.setIfInBounds_toArray, List.set_cons_zero, List.set_cons_succ]
                refine wpAny_take (i := 7) (oi := ?oiB7) (v := ?vvB7) ?hoB7 (by kernel_rfl) (by kernel_rfl) (by kernel_rfl) ?hQB7 ?hyB7 ?restB7
                case hoB7 => (simp only [List.getElem?_toArray, List.getElem?_cons_succ, List.getElem?_cons_zero]; rfl)
                case hQB7 => exact fun _ _ _ h => h
                case hyB7 => exact Or.inl ⟨by rfl, fun W => by go_simp; rfl⟩
                try simp only [Act.put, List.setIfInBounds_toArray, List.set_cons_zero, List.set_cons_succ]
                refine wpAny_take (i := 8) (oi := ?oiB8) (v := ?vvB8) ?hoB8 (by kernel_rfl) (by kernel_rfl) (by kernel_rfl) ?hQB8 ?hyB8 ?restB8
                case hoB8 => (simp only [List.getElem?_toArray, List.getElem?_cons_succ, List.getElem?_cons_zero]; rfl)
                case hQB8 => exact fun _ _ _ h => h
                case hyB8 => exact Or.inl ⟨by rfl, fun W => by go_simp; rfl⟩
                try simp only [Act.put, List.setIfInBounds_toArray, List.set_cons_zero, List.set_cons_succ]
                refine wpAny_take (i := 9) (oi := ?oiB9) (v := ?vvB9) ?hoB9 (by kernel_rfl) (by kernel_rfl) (by kernel_rfl) ?hQB9 ?hyB9 ?restB9
                case hoB9 => (simp only [List.getElem?_toArray, List.getElem?_cons_succ, List.getElem?_cons_zero]; rfl)
                case hQB9 => exact fun _ _ _ h => h
                case hyB9 => exact Or.inl ⟨by rfl, fun W => by go_simp; rfl⟩
                try simp only [Act.put, List.setIfInBounds_toArray, List.set_cons_zero, List.set_cons_succ]
                refine wpAny_take (i := 10) (oi := ?oiB10) (v := ?vvB10) ?hoB10 (by kernel_rfl) (by kernel_rfl) (by kernel_rfl) ?hQB10 ?hyB10 ?restB10
                case hoB10 => (simp only [List.getElem?_toArray, List.getElem?_cons_succ, List.getElem?_cons_zero]; rfl)
                case hQB10 => exact fun _ _ _ h => h
                case hyB10 => exact Or.inl ⟨by rfl, fun W => by go_simp; rfl⟩
                try simp only [Act.put, List.setIfInBounds_toArray, List.set_cons_zero, List.set_cons_succ]
                refine wpAny_take (i := 11) (oi := ?oiB11) (v := ?vvB11) ?hoB11 (by kernel_rfl) (by kernel_rfl) (by kernel_rfl) ?hQB11 ?hyB11 ?restB11
                case hoB11 => (simp only [List.getElem?_toArray, List.getElem?_cons_succ, List.getElem?_cons_zero]; rfl)
                case hQB11 => exact fun _ _ _ h => h
                case hyB11 => exact Or.inl ⟨by rfl, fun W => by go_simp; rfl⟩
                try simp only [Act.put, List.setIfInBounds_toArray, List.set_cons_zero, List.set_cons_succ]
                refine wpAny_take (i := 12) (oi := ?oiB12) (v := ?vvB12) ?hoB12 (by kernel_rfl) (by kernel_rfl) (by kernel_rfl) ?hQB12 ?hyB12 ?restB12
                case hoB12 => (simp only [List.getElem?_toArray, List.getElem?_cons_succ, List.getElem?_cons_zero]; rfl)
                case hQB12 => exact fun _ _ _ h => h
                case hyB12 => exact Or.inl ⟨by rfl, fun W => by go_simp; rfl⟩
                try simp only [Act.put, List.setIfInBounds_toArray, List.set_cons_zero, List.set_cons_succ]
                refine wpAny_take (i := 13) (oi := ?oiB13) (v := ?vvB13) ?hoB13 (by kernel_rfl) (by kernel_rfl) (by kernel_rfl) ?hQB13 ?hyB13 ?restB13
                case hoB13 => (simp only [List.getElem?_toArray, List.getElem?_cons_succ, List.getElem?_cons_zero]; rfl)
                case hQB13 => exact fun _ _ _ h => h
                case hyB13 => exact Or.inl ⟨by rfl, fun W => by go_simp; rfl⟩
                try simp only [Act.put, List.setIfInBounds_toArray, List.set_cons_zero, List.set_cons_succ]
                refine wpAny_take (i := 14) (oi := ?oiB14) (v := ?vvB14) ?hoB14 (by kernel_rfl) (by kernel_rfl) (by kernel_rfl) ?hQB14 ?hyB14 ?restB14
                case hoB14 => (simp only [List.getElem?_toArray, List.getElem?_cons_succ, List.getElem?_cons_zero]; rfl)
                case hQB14 => exact fun _ _ _ h => h
                case hyB14 => exact Or.inl ⟨by rfl, fun W => by go_simp; rfl⟩
                try simp only [Act.put, List.setIfInBounds_toArray, List.set_cons_zero, List.set_cons_succ]
                refine wpAny_take (i := 15) (oi := ?oiB15) (v := ?vvB15) ?hoB15 (by kernel_rfl) (by kernel_rfl) (by kernel_rfl) ?hQB15 ?hyB15 ?restB15
                case hoB15 => (simp only [List.getElem?_toArray, List.getElem?_cons_succ, List.getElem?_cons_zero]; rfl)
                case hQB15 => exact fun _ _ _ h => h
                case hyB15 => exact Or.inl ⟨by rfl, fun W => by go_simp; rfl⟩
                try simp only [Act.put, List.setIfInBounds_toArray, List.set_cons_zero, List.set_cons_succ]
                refine wpAny_take (i := 16) (oi := ?oiB16) (v := ?vvB16) ?hoB16 (by kernel_rfl) (by kernel_rfl) (by kernel_rfl) ?hQB16 ?hyB16 ?restB16
                case hoB16 => (simp only [List.getElem?_toArray, List.getElem?_cons_succ, List.getElem?_cons_zero]; rfl)
                case hQB16 => exact fun _ _ _ h => h
                case hyB16 => exact Or.inl ⟨by rfl, fun W => by go_simp; rfl⟩
                try simp only [Act.put, List.setIfInBounds_toArray, List.set_cons_zero, List.set_cons_succ]
                refine wpAny_take (i := 17) (oi := ?oiB17) (v := ?vvB17) ?hoB17 (by kernel_rfl) (by kernel_rfl) (by kernel_rfl) ?hQB17 ?hyB17 ?restB17
                case hoB17 => (simp only [List.getElem?_toArray, List.getElem?_cons_succ, List.getElem?_cons_zero]; rfl)
                case hQB17 => exact fun _ _ _ h => h
                case hyB17 => exact Or.inl ⟨by rfl, fun W => by go_simp; rfl⟩
                try simp only [Act.put, List.setIfInBounds_toArray, List.set_cons_zero, List.set_cons_succ]
                refine wpAny_take (i := 18) (oi := ?oiB18) (v := ?vvB18) ?hoB18 (by kernel_rfl) (by kernel_rfl) (by kernel_rfl) ?hQB18 ?hyB18 ?restB18
                case hoB18 => (simp only [List.getElem?_toArray, List.getElem?_cons_succ, List.getElem?_cons_zero]; rfl)
                case hQB18 => exact fun _ _ _ h => h
                case hyB18 => exact Or.inl ⟨by rfl, fun W => by go_simp; rfl⟩
                try simp only [Act.put, List.setIfInBounds_toArray, List.set_cons_zero, List.set_cons_succ]
                refine wpAny_take (i := 19) (oi := ?oiB19) (v := ?vvB19) ?hoB19 (by kernel_rfl) (by kernel_rfl) (by kernel_rfl) ?hQB19 ?hyB19 ?restB19
                case hoB19 => (simp only [List.getElem?_toArray, List.getElem?_cons_succ, List.getElem?_cons_zero]; rfl)
                case hQB19 => exact fun _ _ _ h => h
                case hyB19 => exact Or.inl ⟨by rfl, fun W => by go_simp; rfl⟩
                try simp only [Act.put, List.setIfInBounds_toArray, List.set_cons_zero, List.set_cons_succ]
                refine wpAny_take (i := 20) (oi := ?oiB20) (v := ?vvB20) ?hoB20 (by kernel_rfl) (by kernel_rfl) (by kernel_rfl) ?hQB20 ?hyB20 ?restB20
                case hoB20 => (simp only [List.getElem?_toArray, List.getElem?_cons_succ, List.getElem?_cons_zero]; rfl)
                case hQB20 => exact fun _ _ _ h => h
                case hyB20 => exact Or.inl ⟨by rfl, fun W => by go_simp; rfl⟩
                try simp only [Act.put, List.setIfInBounds_toArray, List.set_cons_zero, List.set_cons_succ]
                refine wpAny_take (i := 21) (oi := ?oiB21) (v := ?vvB21) ?hoB21 (by kernel_rfl) (by kernel_rfl) (by kernel_rfl) ?hQB21 ?hyB21 ?restB21
                case hoB21 => (simp only [List.getElem?_toArray, List.getElem?_cons_succ, List.getElem?_cons_zero]; rfl)
                case hQB21 => exact fun _ _ _ h => h
                case hyB21 => exact Or.inl ⟨by rfl, fun W => by go_simp; rfl⟩
                try simp only [Act.put, List.setIfInBounds_toArray, List.set_cons_zero, List.set_cons_succ]
                refine wpAny_take (i := 22) (oi := ?oiB22) (v := ?vvB22) ?hoB22 (by kernel_rfl) (by kernel_rfl) (by kernel_rfl) ?hQB22 ?hyB22 ?restB22
                case hoB22 => (simp only [List.getElem?_toArray, List.getElem?_cons_succ, List.getElem?_cons_zero]; rfl)
                case hQB22 => exact fun _ _ _ h => h
                case hyB22 => exact Or.inl ⟨by rfl, fun W => by go_simp; rfl⟩
                try simp only [Act.put, List.setIfInBounds_toArray, List.set_cons_zero, List.set_cons_succ]
                refine wpAny_take (i := 23) (oi := ?oiB23) (v := ?vvB23) ?hoB23 (by kernel_rfl) (by kernel_rfl) (by kernel_rfl) ?hQB23 ?hyB23 ?restB23
                case hoB23 => (simp only [List.getElem?_toArray, List.getElem?_cons_succ, List.getElem?_cons_zero]; rfl)
                case hQB23 => exact fun _ _ _ h => h
                case hyB23 => exact Or.inl ⟨by rfl, fun W => by go_simp; rfl⟩
                try simp only [Act.put, List.setIfInBounds_toArray, List.set_cons_zero, List.set_cons_succ]
                refine wpAny_take (i := 24) (oi := ?oiB24) (v := ?vvB24) ?hoB24 (by kernel_rfl) (by kernel_rfl) (by kernel_rfl) ?hQB24 ?hyB24 ?restB24
                case hoB24 => (simp only [List.getElem?_toArray, List.getElem?_cons_succ, List.getElem?_cons_zero]; rfl)
                case hQB24 => exact fun _ _ _ h => h
                case hyB24 => exact Or.inl ⟨by rfl, fun W => by go_simp; rfl⟩
                try simp only [Act.put, List.setIfInBounds_toArray, List.set_cons_zero, List.set_cons_succ]
                refine wpAny_take (i := 25) (oi := ?oiB25) (v := ?vvB25) ?hoB25 (by kernel_rfl) (by kernel_rfl) (by kernel_rfl) ?hQB25 ?hyB25 ?restB25
                case hoB25 => (simp only [List.getElem?_toArray, List.getElem?_cons_succ, List.getElem?_cons_zero]; rfl)
                case hQB25 => exact fun _ _ _ h => h
                case hyB25 => exact Or.inl ⟨by rfl, fun W => by go_simp; rfl⟩
                try simp only [Act.put, List.setIfInBounds_toArray, List.set_cons_zero, List.set_cons_succ]
                refine wpAny_take (i := 26) (oi := ?oiB26) (v := ?vvB26) ?hoB26 (by kernel_rfl) (by kernel_rfl) (by kernel_rfl) ?hQB26 ?hyB26 ?restB26
                case hoB26 => (simp only [List.getElem?_toArray, List.getElem?_cons_succ, List.getElem?_cons_zero]; rfl)
                case hQB26 => exact fun _ _ _ h => h
                case hyB26 => exact Or.inl ⟨by rfl, fun W => by go_simp; rfl⟩
                try simp only [Act.put, List.setIfInBounds_toArray, List.set_cons_zero, List.set_cons_succ]
                refine wpAny_take (i := 27) (oi := ?oiB27) (v := ?vvB27) ?hoB27 (by kernel_rfl) (by kernel_rfl) (by kernel_rfl) ?hQB27 ?hyB27 ?restB27
                case hoB27 => (simp only [List.getElem?_toArray, List.getElem?_cons_succ, List.getElem?_cons_zero]; rfl)
                case hQB27 => exact fun _ _ _ h => h
                case hyB27 => exact Or.inl ⟨by rfl, fun W => by go_simp; rfl⟩
                try simp only [Act.put, List.setIfInBounds_toArray, List.set_cons_zero, List.set_cons_succ]
                refine wpAny_take (i := 28) (oi := ?oiB28) (v := ?vvB28) ?hoB28 (by kernel_rfl) (by kernel_rfl) (by kernel_rfl) ?hQB28 ?hyB28 ?restB28
                case hoB28 => (simp only [List.getElem?_toArray, List.getElem?_cons_succ, List.getElem?_cons_zero]; rfl)
                case hQB28 => exact fun _ _ _ h => h
                case hyB28 => exact Or.inl ⟨by rfl, fun W => by go_simp; rfl⟩
                try simp only [Act.put, List.setIfInBounds_toArray, List.set_cons_zero, List.set_cons_succ]
                refine wpAny_ready (rs := [29]) (by kernel_rfl) (by simp) ?_
                refine AllReady.cons (o := ?oo3) ?hoo3 (fun K hK => ?kk3) AllReady.nil
                case hoo3 => (simp only [List.getElem?_toArray, List.getElem?_cons_succ, List.getElem?_cons_zero]; rfl)
                refine step_build12 rfl _ _ _ _ _ _ _ _ _ _ _ _ _ _ _ _ _ _ _ _ _ _ _ _ rfl rfl rfl rfl rfl rfl rfl rfl rfl rfl rfl rfl rfl ?_
                refine hK _ _ ?_
                clear hK K
                try simp only [Act.put, List.setIfInBounds_toArray, List.set_cons_zero, List.set_cons_succ]
                refine wpAny_ready (rs := [30]) (by kernel_rfl) (by simp) ?_
                refine AllReady.cons (o := ?oo4) ?hoo4 (fun K hK => ?kk4) AllReady.nil
                case hoo4 => (simp only [List.getElem?_toArray, List.getElem?_cons_succ, List.getElem?_cons_zero]; rfl)
                refine step_newD rfl _ _ rfl w.heap.size _ (34 :: outs a pre) ([92, 117, hexU py0, hexU py1, hexU py2, hexU py3] ++ [92, 117, hexU qy0, hexU qy1, hexU qy2, hexU qy3]) w rfl HROW.out HBW.out 12 _ rfl (by simp) (cl_hex2 py0 py1 py2 py3 qy0 qy1 qy2 qy3 pl0 pl1 pl2 pl3 ql0 ql1 ql2 ql3) (by simp; omega) hwz ?_
                intro v3 w3 HR2 HB2
                refine hK _ _ ?_
                clear hK K
                try simp only [Act.put, List.setIfInBounds_toArray, List.set_cons_zero, List.set_cons_succ]
                refine wpAny_take (i := 31) (oi := ?oiB31) (v := ?vvB31) ?hoB31 (by kernel_rfl) (by kernel_rfl) (by kernel_rfl) ?hQB31 ?hyB31 ?restB31
                case hoB31 => (simp only [List.getElem?_toArray, List.getElem?_cons_succ, List.getElem?_cons_zero]; rfl)
                case hQB31 => exact fun _ _ _ h => h
                case hyB31 => exact Or.inl ⟨by rfl, fun W => by go_simp; rfl⟩
                try simp only [Act.put, List.setIfInBounds_toArray, List.set_cons_zero, List.set_cons_succ]
                refine wpAny_done (by kernel_rfl) ?_ _
                go_wp2_with fail
                go_roundw
                case rel => exact ⟨pre ++ [c], rest, by rw [HCS.out, HPC.out], by rw [HLP.out]; go_num, by rw [pre_out a pre c _ HOO.out]; exact HR2.out, HB2.out⟩
                case measure => simp [jq]; omega
end Go.Proofs.Ytocnfapldcjilaa
