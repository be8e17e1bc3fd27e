/-
The law FnSafe: the law's own function walked, case by case. Conditions: the cases' facts on the sum and the product; the sentinel's variable holds an error.
-/
import Derived.Test.YtlahbaolbgfmjaaDoorS1
namespace Go.Proofs.YtlahbaolbgfmjaaDoor
open Go.RowKit Go.ChangeShapes

/-- The law answers true, and only draws. -/
def Law (a b : Int) (w : World) : Prop := Calls Tryd.prog 3 #[.int .i64 a, .int .i64 b] w fun e w' => e = .returned (.bool true) ∧ Same w w'
def Tells (f : Nat) (a b r : Int) (t : Bool) (w : World) : Prop := ∀ W, Same w W → Calls Tryd.prog f #[.int .i64 a, .int .i64 b] W fun e w' => e = .returned (.tuple #[.int .i64 r, .bool t]) ∧ Same W w'
theorem Same.refl (w : World) : Same w w := ⟨rfl, rfl, rfl, rfl⟩
theorem tells_five (w : World) : Tells 5 2 3 5 true w := fun W _ => add_ok 2 3 W (by decide) (by decide) (by decide) (by decide)

theorem law_neg (a b : Int) (w : World) (n : ¬ a ≥ 0) (h1 : Tells 5 a b 0 false w) (h2 : Tells 6 a b 0 false w) (h3 : Tells 7 a b 0 false w) : Law a b w := by
  have H1 := hid h1
  have H2 := hid h2
  have H3 := hid h3
  clear h1 h2 h3
  have H5 := hid (tells_five w)
  have s0 := Same.refl w
  unfold Tells at H1 H2 H3 H5
  go_enter Tryd.func3, Tryd.ntmps3
  go_wp2_with (first
    | (go_at_call 5; have K := H1.out _ s0; refine K.mono ?_; clear K s0 H1; rintro e w1 ⟨rfl, s1⟩)
    | (go_at_call 6; have K := H2.out _ s1; refine K.mono ?_; clear K; rintro e w2 ⟨rfl, s2'⟩; have s2 := s1.trans s2'; clear s2')
    | (go_at_call 7; have K := H3.out _ s2; refine K.mono ?_; clear K; rintro e w3 ⟨rfl, s3'⟩; have s3 := s2.trans s3'; clear s3')
    | (go_at_call 5; have K := H5.out _ s3; refine K.mono ?_; clear K; rintro e w4 ⟨rfl, s4'⟩; have s4 := s3.trans s4'; clear s4'))
  go_ret
  exact ⟨rfl, s4⟩

theorem law_neg2 (a b : Int) (w : World) (n : a ≥ 0) (n2 : ¬ b ≥ 0) (h1 : Tells 5 a b 0 false w) (h2 : Tells 6 a b 0 false w) (h3 : Tells 7 a b 0 false w) : Law a b w := by
  have H1 := hid h1
  have H2 := hid h2
  have H3 := hid h3
  clear h1 h2 h3
  have H5 := hid (tells_five w)
  have s0 := Same.refl w
  unfold Tells at H1 H2 H3 H5
  go_enter Tryd.func3, Tryd.ntmps3
  go_wp2_with (first
    | (go_at_call 5; have K := H1.out _ s0; refine K.mono ?_; clear K s0 H1; rintro e w1 ⟨rfl, s1⟩)
    | (go_at_call 6; have K := H2.out _ s1; refine K.mono ?_; clear K; rintro e w2 ⟨rfl, s2'⟩; have s2 := s1.trans s2'; clear s2')
    | (go_at_call 7; have K := H3.out _ s2; refine K.mono ?_; clear K; rintro e w3 ⟨rfl, s3'⟩; have s3 := s2.trans s3'; clear s3')
    | (go_at_call 5; have K := H5.out _ s3; refine K.mono ?_; clear K; rintro e w4 ⟨rfl, s4'⟩; have s4 := s3.trans s4'; clear s4'))
  go_ret
  exact ⟨rfl, s4⟩

theorem law_sz (a b S P : Int) (w : World) (n : a ≥ 0) (n2 : b ≥ 0) (hS : wrap64 (a + b) = S) (hS0 : S ≥ 0) (ha : (a == 0) = true) (hP : wrap64 (a * b) = P) (h1 : Tells 5 a b S true w) (h2 : Tells 6 a b P true w) (h3 : Tells 7 a b P true w) : Law a b w := by
  have H1 := hid h1
  have H2 := hid h2
  have H3 := hid h3
  clear h1 h2 h3
  have H5 := hid (tells_five w)
  have s0 := Same.refl w
  unfold Tells at H1 H2 H3 H5
  go_enter Tryd.func3, Tryd.ntmps3
  go_wp2_with (first
    | (go_at_call 5; have K := H1.out _ s0; refine K.mono ?_; clear K s0 H1; rintro e w1 ⟨rfl, s1⟩)
    | (go_at_call 6; have K := H2.out _ s1; refine K.mono ?_; clear K; rintro e w2 ⟨rfl, s2'⟩; have s2 := s1.trans s2'; clear s2')
    | (go_at_call 7; have K := H3.out _ s2; refine K.mono ?_; clear K; rintro e w3 ⟨rfl, s3'⟩; have s3 := s2.trans s3'; clear s3')
    | (go_at_call 5; have K := H5.out _ s3; refine K.mono ?_; clear K; rintro e w4 ⟨rfl, s4'⟩; have s4 := s3.trans s4'; clear s4'))
  go_ret
  exact ⟨rfl, s4⟩

theorem law_sy (a b S P : Int) (w : World) (n : a ≥ 0) (n2 : b ≥ 0) (hS : wrap64 (a + b) = S) (hS0 : S ≥ 0) (ha : (a == 0) = false) (hb : (b == 0) = true) (hP : wrap64 (a * b) = P) (h1 : Tells 5 a b S true w) (h2 : Tells 6 a b P true w) (h3 : Tells 7 a b P true w) : Law a b w := by
  have H1 := hid h1
  have H2 := hid h2
  have H3 := hid h3
  clear h1 h2 h3
  have H5 := hid (tells_five w)
  have s0 := Same.refl w
  unfold Tells at H1 H2 H3 H5
  go_enter Tryd.func3, Tryd.ntmps3
  go_wp2_with (first
    | (go_at_call 5; have K := H1.out _ s0; refine K.mono ?_; clear K s0 H1; rintro e w1 ⟨rfl, s1⟩)
    | (go_at_call 6; have K := H2.out _ s1; refine K.mono ?_; clear K; rintro e w2 ⟨rfl, s2'⟩; have s2 := s1.trans s2'; clear s2')
    | (go_at_call 7; have K := H3.out _ s2; refine K.mono ?_; clear K; rintro e w3 ⟨rfl, s3'⟩; have s3 := s2.trans s3'; clear s3')
    | (go_at_call 5; have K := H5.out _ s3; refine K.mono ?_; clear K; rintro e w4 ⟨rfl, s4'⟩; have s4 := s3.trans s4'; clear s4'))
  go_ret
  exact ⟨rfl, s4⟩

theorem law_sp (a b S P : Int) (w : World) (n : a ≥ 0) (n2 : b ≥ 0) (hS : wrap64 (a + b) = S) (hS0 : S ≥ 0) (ha : (a == 0) = false) (hb : (b == 0) = false) (hb2 : ¬ b = 0) (hP : wrap64 (a * b) = P) (hP0 : P ≥ 0) (hd : wrap64 (P.tdiv b) = a) (h1 : Tells 5 a b S true w) (h2 : Tells 6 a b P true w) (h3 : Tells 7 a b P true w) : Law a b w := by
  have H1 := hid h1
  have H2 := hid h2
  have H3 := hid h3
  clear h1 h2 h3
  have H5 := hid (tells_five w)
  have s0 := Same.refl w
  unfold Tells at H1 H2 H3 H5
  go_enter Tryd.func3, Tryd.ntmps3
  go_wp2_with (first
    | (go_at_call 5; have K := H1.out _ s0; refine K.mono ?_; clear K s0 H1; rintro e w1 ⟨rfl, s1⟩)
    | (go_at_call 6; have K := H2.out _ s1; refine K.mono ?_; clear K; rintro e w2 ⟨rfl, s2'⟩; have s2 := s1.trans s2'; clear s2')
    | (go_at_call 7; have K := H3.out _ s2; refine K.mono ?_; clear K; rintro e w3 ⟨rfl, s3'⟩; have s3 := s2.trans s3'; clear s3')
    | (go_at_call 5; have K := H5.out _ s3; refine K.mono ?_; clear K; rintro e w4 ⟨rfl, s4'⟩; have s4 := s3.trans s4'; clear s4'))
  go_ret
  exact ⟨rfl, s4⟩

theorem law_sn (a b S P : Int) (w : World) (n : a ≥ 0) (n2 : b ≥ 0) (hS : wrap64 (a + b) = S) (hS0 : S ≥ 0) (ha : (a == 0) = false) (hb : (b == 0) = false) (hP : wrap64 (a * b) = P) (hP0 : ¬ P ≥ 0) (h1 : Tells 5 a b S true w) (h2 : Tells 6 a b 0 false w) (h3 : Tells 7 a b 0 false w) : Law a b w := by
  have H1 := hid h1
  have H2 := hid h2
  have H3 := hid h3
  clear h1 h2 h3
  have H5 := hid (tells_five w)
  have s0 := Same.refl w
  unfold Tells at H1 H2 H3 H5
  go_enter Tryd.func3, Tryd.ntmps3
  go_wp2_with (first
    | (go_at_call 5; have K := H1.out _ s0; refine K.mono ?_; clear K s0 H1; rintro e w1 ⟨rfl, s1⟩)
    | (go_at_call 6; have K := H2.out _ s1; refine K.mono ?_; clear K; rintro e w2 ⟨rfl, s2'⟩; have s2 := s1.trans s2'; clear s2')
    | (go_at_call 7; have K := H3.out _ s2; refine K.mono ?_; clear K; rintro e w3 ⟨rfl, s3'⟩; have s3 := s2.trans s3'; clear s3')
    | (go_at_call 5; have K := H5.out _ s3; refine K.mono ?_; clear K; rintro e w4 ⟨rfl, s4'⟩; have s4 := s3.trans s4'; clear s4'))
  go_ret
  exact ⟨rfl, s4⟩

theorem law_sq (a b S P : Int) (w : World) (n : a ≥ 0) (n2 : b ≥ 0) (hS : wrap64 (a + b) = S) (hS0 : S ≥ 0) (ha : (a == 0) = false) (hb : (b == 0) = false) (hb2 : ¬ b = 0) (hP : wrap64 (a * b) = P) (hP0 : P ≥ 0) (hd2 : (wrap64 (P.tdiv b) == a) = false) (h1 : Tells 5 a b S true w) (h2 : Tells 6 a b 0 false w) (h3 : Tells 7 a b 0 false w) : Law a b w := by
  have H1 := hid h1
  have H2 := hid h2
  have H3 := hid h3
  clear h1 h2 h3
  have H5 := hid (tells_five w)
  have s0 := Same.refl w
  unfold Tells at H1 H2 H3 H5
  go_enter Tryd.func3, Tryd.ntmps3
  go_wp2_with (first
    | (go_at_call 5; have K := H1.out _ s0; refine K.mono ?_; clear K s0 H1; rintro e w1 ⟨rfl, s1⟩)
    | (go_at_call 6; have K := H2.out _ s1; refine K.mono ?_; clear K; rintro e w2 ⟨rfl, s2'⟩; have s2 := s1.trans s2'; clear s2')
    | (go_at_call 7; have K := H3.out _ s2; refine K.mono ?_; clear K; rintro e w3 ⟨rfl, s3'⟩; have s3 := s2.trans s3'; clear s3')
    | (go_at_call 5; have K := H5.out _ s3; refine K.mono ?_; clear K; rintro e w4 ⟨rfl, s4'⟩; have s4 := s3.trans s4'; clear s4'))
  go_ret
  exact ⟨rfl, s4⟩

theorem law_oz (a b S P : Int) (w : World) (n : a ≥ 0) (n2 : b ≥ 0) (hS : wrap64 (a + b) = S) (hS0 : ¬ S ≥ 0) (ha : (a == 0) = true) (hP : wrap64 (a * b) = P) (h1 : Tells 5 a b 0 false w) (h2 : Tells 6 a b P true w) (h3 : Tells 7 a b P true w) : Law a b w := by
  have H1 := hid h1
  have H2 := hid h2
  have H3 := hid h3
  clear h1 h2 h3
  have H5 := hid (tells_five w)
  have s0 := Same.refl w
  unfold Tells at H1 H2 H3 H5
  go_enter Tryd.func3, Tryd.ntmps3
  go_wp2_with (first
    | (go_at_call 5; have K := H1.out _ s0; refine K.mono ?_; clear K s0 H1; rintro e w1 ⟨rfl, s1⟩)
    | (go_at_call 6; have K := H2.out _ s1; refine K.mono ?_; clear K; rintro e w2 ⟨rfl, s2'⟩; have s2 := s1.trans s2'; clear s2')
    | (go_at_call 7; have K := H3.out _ s2; refine K.mono ?_; clear K; rintro e w3 ⟨rfl, s3'⟩; have s3 := s2.trans s3'; clear s3')
    | (go_at_call 5; have K := H5.out _ s3; refine K.mono ?_; clear K; rintro e w4 ⟨rfl, s4'⟩; have s4 := s3.trans s4'; clear s4'))
  go_ret
  exact ⟨rfl, s4⟩

theorem law_oy (a b S P : Int) (w : World) (n : a ≥ 0) (n2 : b ≥ 0) (hS : wrap64 (a + b) = S) (hS0 : ¬ S ≥ 0) (ha : (a == 0) = false) (hb : (b == 0) = true) (hP : wrap64 (a * b) = P) (h1 : Tells 5 a b 0 false w) (h2 : Tells 6 a b P true w) (h3 : Tells 7 a b P true w) : Law a b w := by
  have H1 := hid h1
  have H2 := hid h2
  have H3 := hid h3
  clear h1 h2 h3
  have H5 := hid (tells_five w)
  have s0 := Same.refl w
  unfold Tells at H1 H2 H3 H5
  go_enter Tryd.func3, Tryd.ntmps3
  go_wp2_with (first
    | (go_at_call 5; have K := H1.out _ s0; refine K.mono ?_; clear K s0 H1; rintro e w1 ⟨rfl, s1⟩)
    | (go_at_call 6; have K := H2.out _ s1; refine K.mono ?_; clear K; rintro e w2 ⟨rfl, s2'⟩; have s2 := s1.trans s2'; clear s2')
    | (go_at_call 7; have K := H3.out _ s2; refine K.mono ?_; clear K; rintro e w3 ⟨rfl, s3'⟩; have s3 := s2.trans s3'; clear s3')
    | (go_at_call 5; have K := H5.out _ s3; refine K.mono ?_; clear K; rintro e w4 ⟨rfl, s4'⟩; have s4 := s3.trans s4'; clear s4'))
  go_ret
  exact ⟨rfl, s4⟩

theorem law_op (a b S P : Int) (w : World) (n : a ≥ 0) (n2 : b ≥ 0) (hS : wrap64 (a + b) = S) (hS0 : ¬ S ≥ 0) (ha : (a == 0) = false) (hb : (b == 0) = false) (hb2 : ¬ b = 0) (hP : wrap64 (a * b) = P) (hP0 : P ≥ 0) (hd : wrap64 (P.tdiv b) = a) (h1 : Tells 5 a b 0 false w) (h2 : Tells 6 a b P true w) (h3 : Tells 7 a b P true w) : Law a b w := by
  have H1 := hid h1
  have H2 := hid h2
  have H3 := hid h3
  clear h1 h2 h3
  have H5 := hid (tells_five w)
  have s0 := Same.refl w
  unfold Tells at H1 H2 H3 H5
  go_enter Tryd.func3, Tryd.ntmps3
  go_wp2_with (first
    | (go_at_call 5; have K := H1.out _ s0; refine K.mono ?_; clear K s0 H1; rintro e w1 ⟨rfl, s1⟩)
    | (go_at_call 6; have K := H2.out _ s1; refine K.mono ?_; clear K; rintro e w2 ⟨rfl, s2'⟩; have s2 := s1.trans s2'; clear s2')
    | (go_at_call 7; have K := H3.out _ s2; refine K.mono ?_; clear K; rintro e w3 ⟨rfl, s3'⟩; have s3 := s2.trans s3'; clear s3')
    | (go_at_call 5; have K := H5.out _ s3; refine K.mono ?_; clear K; rintro e w4 ⟨rfl, s4'⟩; have s4 := s3.trans s4'; clear s4'))
  go_ret
  exact ⟨rfl, s4⟩

theorem law_on (a b S P : Int) (w : World) (n : a ≥ 0) (n2 : b ≥ 0) (hS : wrap64 (a + b) = S) (hS0 : ¬ S ≥ 0) (ha : (a == 0) = false) (hb : (b == 0) = false) (hP : wrap64 (a * b) = P) (hP0 : ¬ P ≥ 0) (h1 : Tells 5 a b 0 false w) (h2 : Tells 6 a b 0 false w) (h3 : Tells 7 a b 0 false w) : Law a b w := by
  have H1 := hid h1
  have H2 := hid h2
  have H3 := hid h3
  clear h1 h2 h3
  have H5 := hid (tells_five w)
  have s0 := Same.refl w
  unfold Tells at H1 H2 H3 H5
  go_enter Tryd.func3, Tryd.ntmps3
  go_wp2_with (first
    | (go_at_call 5; have K := H1.out _ s0; refine K.mono ?_; clear K s0 H1; rintro e w1 ⟨rfl, s1⟩)
    | (go_at_call 6; have K := H2.out _ s1; refine K.mono ?_; clear K; rintro e w2 ⟨rfl, s2'⟩; have s2 := s1.trans s2'; clear s2')
    | (go_at_call 7; have K := H3.out _ s2; refine K.mono ?_; clear K; rintro e w3 ⟨rfl, s3'⟩; have s3 := s2.trans s3'; clear s3')
    | (go_at_call 5; have K := H5.out _ s3; refine K.mono ?_; clear K; rintro e w4 ⟨rfl, s4'⟩; have s4 := s3.trans s4'; clear s4'))
  go_ret
  exact ⟨rfl, s4⟩

theorem law_oq (a b S P : Int) (w : World) (n : a ≥ 0) (n2 : b ≥ 0) (hS : wrap64 (a + b) = S) (hS0 : ¬ S ≥ 0) (ha : (a == 0) = false) (hb : (b == 0) = false) (hb2 : ¬ b = 0) (hP : wrap64 (a * b) = P) (hP0 : P ≥ 0) (hd2 : (wrap64 (P.tdiv b) == a) = false) (h1 : Tells 5 a b 0 false w) (h2 : Tells 6 a b 0 false w) (h3 : Tells 7 a b 0 false w) : Law a b w := by
  have H1 := hid h1
  have H2 := hid h2
  have H3 := hid h3
  clear h1 h2 h3
  have H5 := hid (tells_five w)
  have s0 := Same.refl w
  unfold Tells at H1 H2 H3 H5
  go_enter Tryd.func3, Tryd.ntmps3
  go_wp2_with (first
    | (go_at_call 5; have K := H1.out _ s0; refine K.mono ?_; clear K s0 H1; rintro e w1 ⟨rfl, s1⟩)
    | (go_at_call 6; have K := H2.out _ s1; refine K.mono ?_; clear K; rintro e w2 ⟨rfl, s2'⟩; have s2 := s1.trans s2'; clear s2')
    | (go_at_call 7; have K := H3.out _ s2; refine K.mono ?_; clear K; rintro e w3 ⟨rfl, s3'⟩; have s3 := s2.trans s3'; clear s3')
    | (go_at_call 5; have K := H5.out _ s3; refine K.mono ?_; clear K; rintro e w4 ⟨rfl, s4'⟩; have s4 := s3.trans s4'; clear s4'))
  go_ret
  exact ⟨rfl, s4⟩

end Go.Proofs.YtlahbaolbgfmjaaDoor
