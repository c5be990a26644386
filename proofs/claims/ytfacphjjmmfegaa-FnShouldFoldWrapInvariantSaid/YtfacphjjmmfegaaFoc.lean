/-
  ShouldFoldBinaryOperatorWhenMinifying over known leaves: one answer, whatever wraps the leaves. No condition.
-/
import Derived.Test.YtfacphjjmmfegaaFoa
import Derived.Test.YtfacphjjmmfegaaFob
namespace Go.Proofs.Ytfacphjjmmfegaa
open Go.ChangeShapes Go.WideShapes Go.ChangeAt Go.RowKit
set_option linter.unusedVariables false

/-- One answer for all nodes over such leaves. -/
def One (op : Int) (ls rs : Bool) (lr rr : Nat) : Prop :=
  ∃ R, ∀ {w : World} {b : Nat} {vl vr : Value} {la ra : Option Addr} {ll lc rl rc : Nat}, Nd w b vl vr op → Kn w vl ls lr (.slice la ll lc) → Kn w vr rs rr (.slice ra rl rc) → Ans R b w
theorem one_all (op : Int) (ls rs : Bool) (lr rr : Nat) (hxl : lr < 18446744073709551616) (hxr : rr < 18446744073709551616)
    (hsh : (op = 23 ∨ op = 25) → ls = false → rs = false → Fp.fin lr ∧ Fp.fin rr) : One op ls rs lr rr := by
  by_cases h26 : op = 26
  · subst h26; exact ⟨_, fun nd hl hr => true_26 nd hl hr⟩
  by_cases h27 : op = 27
  · subst h27; exact ⟨_, fun nd hl hr => true_27 nd hl hr⟩
  by_cases h28 : op = 28
  · subst h28; exact ⟨_, fun nd hl hr => true_28 nd hl hr⟩
  by_cases h29 : op = 29
  · subst h29; exact ⟨_, fun nd hl hr => true_29 nd hl hr⟩
  by_cases h24 : op = 24
  · subst h24; exact ⟨_, fun nd hl hr => true_24 nd hl hr⟩
  by_cases h34 : op = 34
  · subst h34; exact ⟨_, fun nd hl hr => true_34 nd hl hr⟩
  by_cases h33 : op = 33
  · subst h33; exact ⟨_, fun nd hl hr => true_33 nd hl hr⟩
  by_cases h35 : op = 35
  · subst h35; exact ⟨_, fun nd hl hr => true_35 nd hl hr⟩
  by_cases h17 : op = 17
  · subst h17; exact ⟨_, fun nd hl hr => true_17 nd hl hr⟩
  by_cases h19 : op = 19
  · subst h19; exact ⟨_, fun nd hl hr => true_19 nd hl hr⟩
  by_cases h18 : op = 18
  · subst h18; exact ⟨_, fun nd hl hr => true_18 nd hl hr⟩
  by_cases h20 : op = 20
  · subst h20; exact ⟨_, fun nd hl hr => true_20 nd hl hr⟩
  by_cases h32 : op = 32
  · subst h32; exact ⟨_, fun nd hl hr => logic_32 nd hl hr⟩
  by_cases h31 : op = 31
  · subst h31; exact ⟨_, fun nd hl hr => logic_31 nd hl hr⟩
  by_cases h30 : op = 30
  · subst h30; exact ⟨_, fun nd hl hr => logic_30 nd hl hr⟩
  by_cases hs : (ls || rs) = true
  · by_cases h11 : op = 11
    · subst h11
      cases hs2 : (ls && rs)
      · exact ⟨_, fun nd hl hr => add_str_false nd hl hr hs hs2⟩
      · exact ⟨_, fun nd hl hr => add_str_true nd hl hr hs hs2⟩
    by_cases h12 : op = 12
    · subst h12; exact ⟨_, fun nd hl hr => sub_str nd hl hr hs⟩
    by_cases h13 : op = 13
    · subst h13; exact ⟨_, fun nd hl hr => mul_str nd hl hr hs⟩
    by_cases h14 : op = 14
    · subst h14; exact ⟨_, fun nd hl hr => div_str nd hl hr hs⟩
    by_cases h23 : op = 23
    · subst h23; exact ⟨_, fun nd hl hr => shl_str nd hl hr hs⟩
    by_cases h25 : op = 25
    · subst h25; exact ⟨_, fun nd hl hr => shr_str nd hl hr hs⟩
    exact ⟨_, fun nd hl hr => other op nd hl hr h26 h27 h28 h29 h24 h34 h33 h35 h17 h19 h18 h20 h11 h12 h13 h14 h23 h25 h32 h31 h30⟩
  · have hls : ls = false := by cases ls <;> simp_all
    have hrs : rs = false := by cases rs <;> simp_all
    by_cases h11 : op = 11
    · subst h11
      cases t1 : bT lr
      · exact ⟨_, fun nd hl hr => add_num0 nd hl hr hxl hxr t1 hls hrs⟩
      cases a1 : bA lr 4751297606873776128
      · exact ⟨_, fun nd hl hr => add_num1 nd hl hr hxl hxr t1 a1 hls hrs⟩
      cases t2 : bT rr
      · exact ⟨_, fun nd hl hr => add_num2 nd hl hr hxl hxr t1 a1 t2 hls hrs⟩
      cases a2 : bA rr 4751297606873776128
      · exact ⟨_, fun nd hl hr => add_num3 nd hl hr hxl hxr t1 a1 t2 a2 hls hrs⟩
      · exact ⟨_, fun nd hl hr => add_num4 nd hl hr hxl hxr t1 a1 t2 a2 hls hrs⟩
    by_cases h12 : op = 12
    · subst h12
      cases t1 : bT lr
      · exact ⟨_, fun nd hl hr => sub_num0 nd hl hr hxl hxr t1 hls hrs⟩
      cases a1 : bA lr 4751297606873776128
      · exact ⟨_, fun nd hl hr => sub_num1 nd hl hr hxl hxr t1 a1 hls hrs⟩
      cases t2 : bT rr
      · exact ⟨_, fun nd hl hr => sub_num2 nd hl hr hxl hxr t1 a1 t2 hls hrs⟩
      cases a2 : bA rr 4751297606873776128
      · exact ⟨_, fun nd hl hr => sub_num3 nd hl hr hxl hxr t1 a1 t2 a2 hls hrs⟩
      · exact ⟨_, fun nd hl hr => sub_num4 nd hl hr hxl hxr t1 a1 t2 a2 hls hrs⟩
    by_cases h13 : op = 13
    · subst h13
      cases t1 : bT lr
      · exact ⟨_, fun nd hl hr => mul_num0 nd hl hr hxl hxr t1 hls hrs⟩
      cases a1 : bA lr 4643176031446892544
      · exact ⟨_, fun nd hl hr => mul_num1 nd hl hr hxl hxr t1 a1 hls hrs⟩
      cases t2 : bT rr
      · exact ⟨_, fun nd hl hr => mul_num2 nd hl hr hxl hxr t1 a1 t2 hls hrs⟩
      cases a2 : bA rr 4643176031446892544
      · exact ⟨_, fun nd hl hr => mul_num3 nd hl hr hxl hxr t1 a1 t2 a2 hls hrs⟩
      · exact ⟨_, fun nd hl hr => mul_num4 nd hl hr hxl hxr t1 a1 t2 a2 hls hrs⟩
    by_cases h14 : op = 14
    · subst h14
      cases h0 : (FloatKind.f64.format.order rr 0 == some .eq)
      · exact ⟨_, fun nd hl hr => div_num_false nd hl hr h0 hls hrs⟩
      · exact ⟨_, fun nd hl hr => div_num_true nd hl hr h0 hls hrs⟩
    by_cases h2 : op = 23 ∨ op = 25
    · obtain ⟨f1, f2⟩ := hsh h2 hls hrs
      obtain ⟨R, h⟩ := shift_ans op h2 lr rr hxl hxr f1 f2
      subst hls hrs
      exact ⟨R, fun nd hl hr => h nd hl hr⟩
    exact ⟨_, fun nd hl hr => other op nd hl hr h26 h27 h28 h29 h24 h34 h33 h35 h17 h19 h18 h20 h11 h12 h13 h14 (fun h => h2 (.inl h)) (fun h => h2 (.inr h)) h32 h31 h30⟩
end Go.Proofs.Ytfacphjjmmfegaa
