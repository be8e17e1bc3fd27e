/-
The law FnFitted: types.BestFitRectIntoRect walked where the rectangle fits and is only moved. Conditions: the operations' words are given.
-/
import Derived.Test.YtooghncdhjdcpaaB21
namespace Go.Proofs.Ytooghncdhjdcpaa
open Go.RowKit Fl

set_option linter.unusedSimpArgs false in
set_option maxRecDepth 100000 in
set_option maxHeartbeats 8000000 in
theorem fit_IN {g a b c d g' a' b' c' d' x y X Y : Nat} (orient : Bool) (w : World) (hg : RectAt w g a b c d) (hg' : RectAt w g' a' b' c' d') (hx : floatBits .sub .f64 c a = some x) (hy : floatBits .sub .f64 d b = some y) (hX : floatBits .sub .f64 c' a' = some X) (hY : floatBits .sub .f64 d' b' = some Y)
    (hk : ∀ (W : World) (g : Nat), RectAt W g a' b' c' d' → Calls Try.prog 69 #[.agg #[.float .f64 a, .float .f64 b, .float .f64 c, .float .f64 d], .pointer (some ⟨g, 0, none⟩)] W fun e w' => e = .returned (.bool true) ∧ Below W.heap.size W w')
    (m1 m2 m3 n1 n2 n3 : Nat) (e1 : floatBits .quo .f64 X w2 = some m1) (e2 : floatBits .quo .f64 x w2 = some m2) (e3 : floatBits .sub .f64 m1 m2 = some m3) (e4 : floatBits .quo .f64 Y w2 = some n1) (e5 : floatBits .quo .f64 y w2 = some n2) (e6 : floatBits .sub .f64 n1 n2 = some n3) :
    Calls Try.prog 97 #[.pointer (some ⟨g, 0, none⟩), .pointer (some ⟨g', 0, none⟩), .bool orient, .bool false] w fun e w' => e = .returned (.tuple #[.float .f64 x, .float .f64 y, .float .f64 m3, .float .f64 n3, .float .f64 0]) ∧ Below w.heap.size w w' := by
  have HT := Lib.hid (⟨Below.refl _ _, hg, hg'⟩ : TwoR w g a b c d g' a' b' c' d' w)
  obtain ⟨_, r1, r2, r3, r4⟩ := HT.out.one
  obtain ⟨_, s1, s2, s3, s4⟩ := HT.out.two
  have HK := Lib.hid hk
  have HW := Lib.hid (fun W => width_any (b := b) (d := d) W hx)
  have HH := Lib.hid (fun W => height_any (a := a) (c := c) W hy)
  have HWd := Lib.hid (fun W => width_any (b := b') (d := d') W hX)
  have HHd := Lib.hid (fun W => height_any (a := a') (c := c') W hY)
  have o1 := run_bin (P := Try.prog) .quo e1
  have o2 := run_bin (P := Try.prog) .quo e2
  have o3 := run_bin (P := Try.prog) .sub e3
  have o4 := run_bin (P := Try.prog) .quo e4
  have o5 := run_bin (P := Try.prog) .quo e5
  have o6 := run_bin (P := Try.prog) .sub e6
  clear hg hg' hx hy hX hY hk e1 e2 e3 e4 e5 e6
  go_enter Try.func97, Try.ntmps97
  go_wp2_with (first | (go_at_call 69; (with_reducible refine (HK.out _ g' HT.out.two).mono ?_); rintro e V ⟨rfl, hb⟩; replace HT := Lib.hid (HT.out.keep hb); clear r1 r2 r3 r4 s1 s2 s3 s4; obtain ⟨_, r1, r2, r3, r4⟩ := HT.out.one; obtain ⟨_, s1, s2, s3, s4⟩ := HT.out.two; clear hb) | (go_at_call 99; (with_reducible refine (HW.out _).mono ?_); rintro e V ⟨rfl, hb⟩; replace HT := Lib.hid (HT.out.keep hb); clear r1 r2 r3 r4 s1 s2 s3 s4; obtain ⟨_, r1, r2, r3, r4⟩ := HT.out.one; obtain ⟨_, s1, s2, s3, s4⟩ := HT.out.two; clear hb) | (go_at_call 100; (with_reducible refine (HH.out _).mono ?_); rintro e V ⟨rfl, hb⟩; replace HT := Lib.hid (HT.out.keep hb); clear r1 r2 r3 r4 s1 s2 s3 s4; obtain ⟨_, r1, r2, r3, r4⟩ := HT.out.one; obtain ⟨_, s1, s2, s3, s4⟩ := HT.out.two; clear hb))
  refine wp_abs21 (TwoR w g a b c d g' a' b' c' d') HT.out ?_
  clear HT r1 r2 r3 r4 s1 s2 s3 s4
  intro W HT
  refine wp_region_noPanic ?_
  refine wp_region_held_drew (S := TwoR w g a b c d g' a' b' c' d') (by kernel_rfl) ?_ (fun hHeld => ?_)
  · exact HT.keep (Below.refl _ _).drew
  refine wpAnyH_take (i := 0) (v := .pointer (some ⟨g', 0, none⟩)) rfl (by kernel_rfl) (by kernel_rfl) (by kernel_rfl) (fun _ _ _ h => h) (Or.inl ⟨by rfl, ?y1⟩) (by assumption) ?r1
  case y1 =>
    intro w1 hSw
    go_simp
    try with_reducible rfl
  try simp only [List.getElem_toArray, List.getElem_cons_zero, List.getElem_cons_succ, Act.put, List.setIfInBounds_toArray, List.set_cons_zero, List.set_cons_succ]
  refine wpAnyH_take (i := 1) (v := .pointer (some ⟨g', 0, none⟩)) rfl (by kernel_rfl) (by kernel_rfl) (by kernel_rfl) (fun _ _ _ h => h) (Or.inl ⟨by rfl, ?y2⟩) (by assumption) ?r2
  case y2 =>
    intro w1 hSw
    go_simp
    try with_reducible rfl
  try simp only [List.getElem_toArray, List.getElem_cons_zero, List.getElem_cons_succ, Act.put, List.setIfInBounds_toArray, List.set_cons_zero, List.set_cons_succ]
  refine wpAnyH_take (i := 2) (v := .agg #[.float .f64 a', .float .f64 b', .float .f64 c', .float .f64 d']) rfl (by kernel_rfl) (by kernel_rfl) (by kernel_rfl) (fun _ _ _ h => h) (Or.inl ⟨by rfl, ?y3⟩) (by assumption) ?r3
  case y3 =>
    intro w1 hSw
    obtain ⟨_, k1, k2, k3, k4⟩ := hSw.two
    go_simp
    try with_reducible rfl
  try simp only [List.getElem_toArray, List.getElem_cons_zero, List.getElem_cons_succ, Act.put, List.setIfInBounds_toArray, List.set_cons_zero, List.set_cons_succ]
  refine wpAnyH_take (i := 5) (v := .pointer (some ⟨g, 0, none⟩)) rfl (by kernel_rfl) (by kernel_rfl) (by kernel_rfl) (fun _ _ _ h => h) (Or.inl ⟨by rfl, ?y4⟩) (by assumption) ?r4
  case y4 =>
    intro w1 hSw
    go_simp
    try with_reducible rfl
  try simp only [List.getElem_toArray, List.getElem_cons_zero, List.getElem_cons_succ, Act.put, List.setIfInBounds_toArray, List.set_cons_zero, List.set_cons_succ]
  refine wpAnyH_take (i := 6) (v := .pointer (some ⟨g, 0, none⟩)) rfl (by kernel_rfl) (by kernel_rfl) (by kernel_rfl) (fun _ _ _ h => h) (Or.inl ⟨by rfl, ?y5⟩) (by assumption) ?r5
  case y5 =>
    intro w1 hSw
    go_simp
    try with_reducible rfl
  try simp only [List.getElem_toArray, List.getElem_cons_zero, List.getElem_cons_succ, Act.put, List.setIfInBounds_toArray, List.set_cons_zero, List.set_cons_succ]
  refine wpAnyH_take (i := 7) (v := .agg #[.float .f64 a, .float .f64 b, .float .f64 c, .float .f64 d]) rfl (by kernel_rfl) (by kernel_rfl) (by kernel_rfl) (fun _ _ _ h => h) (Or.inl ⟨by rfl, ?y6⟩) (by assumption) ?r6
  case y6 =>
    intro w1 hSw
    obtain ⟨_, k1, k2, k3, k4⟩ := hSw.one
    go_simp
    try with_reducible rfl
  try simp only [List.getElem_toArray, List.getElem_cons_zero, List.getElem_cons_succ, Act.put, List.setIfInBounds_toArray, List.set_cons_zero, List.set_cons_succ]
  refine wpAnyH_ready (rs := [3]) (by kernel_rfl) (by simp) (AllReadyH.cons rfl (fun K hK => ?_) AllReadyH.nil)
  go_simp
  go_at_call 99
  refine (HWd.out _).mono ?_
  rintro e V1 ⟨rfl, hb1⟩
  refine hK.out _ _ (hHeld.keep hb1) (fun hHeld => ?_)
  clear hK K
  try simp only [List.getElem_toArray, List.getElem_cons_zero, List.getElem_cons_succ, Act.put, List.setIfInBounds_toArray, List.set_cons_zero, List.set_cons_succ]
  refine wpAnyH_take (i := 4) (v := .float .f64 m1) rfl (by kernel_rfl) (by kernel_rfl) (by kernel_rfl) (fun _ _ _ h => h) (Or.inl ⟨by rfl, ?y7⟩) (by assumption) ?r7
  case y7 =>
    intro w1 hSw
    go_simp
    try with_reducible rfl
  try simp only [List.getElem_toArray, List.getElem_cons_zero, List.getElem_cons_succ, Act.put, List.setIfInBounds_toArray, List.set_cons_zero, List.set_cons_succ]
  refine wpAnyH_ready (rs := [8]) (by kernel_rfl) (by simp) (AllReadyH.cons rfl (fun K hK => ?_) AllReadyH.nil)
  go_simp
  go_at_call 99
  refine (HW.out _).mono ?_
  rintro e V2 ⟨rfl, hb2⟩
  refine hK.out _ _ (hHeld.keep hb2) (fun hHeld => ?_)
  clear hK K
  try simp only [List.getElem_toArray, List.getElem_cons_zero, List.getElem_cons_succ, Act.put, List.setIfInBounds_toArray, List.set_cons_zero, List.set_cons_succ]
  refine wpAnyH_take (i := 9) (v := .float .f64 m2) rfl (by kernel_rfl) (by kernel_rfl) (by kernel_rfl) (fun _ _ _ h => h) (Or.inl ⟨by rfl, ?y8⟩) (by assumption) ?r8
  case y8 =>
    intro w1 hSw
    go_simp
    try with_reducible rfl
  try simp only [List.getElem_toArray, List.getElem_cons_zero, List.getElem_cons_succ, Act.put, List.setIfInBounds_toArray, List.set_cons_zero, List.set_cons_succ]
  refine wpAnyH_take (i := 10) (v := .float .f64 m3) rfl (by kernel_rfl) (by kernel_rfl) (by kernel_rfl) (fun _ _ _ h => h) (Or.inl ⟨by rfl, ?y9⟩) (by assumption) ?r9
  case y9 =>
    intro w1 hSw
    go_simp
    try with_reducible rfl
  try simp only [List.getElem_toArray, List.getElem_cons_zero, List.getElem_cons_succ, Act.put, List.setIfInBounds_toArray, List.set_cons_zero, List.set_cons_succ]
  refine wpAnyH_take (i := 11) (v := .float .f64 m3) rfl (by kernel_rfl) (by kernel_rfl) (by kernel_rfl) (fun _ _ _ h => h) (Or.inl ⟨by rfl, ?y10⟩) (by assumption) ?r10
  case y10 =>
    intro w1 hSw
    go_simp
    try with_reducible rfl
  try simp only [List.getElem_toArray, List.getElem_cons_zero, List.getElem_cons_succ, Act.put, List.setIfInBounds_toArray, List.set_cons_zero, List.set_cons_succ]
  refine wpAnyH_done (by kernel_rfl) ?_ _
  refine NoPanic.normal ?_
  have HT := Lib.hid hHeld
  clear hHeld
  obtain ⟨_, r1, r2, r3, r4⟩ := HT.out.one
  obtain ⟨_, s1, s2, s3, s4⟩ := HT.out.two
  go_wp2_with fail
  refine wp_abs21 (TwoR w g a b c d g' a' b' c' d') HT.out ?_
  clear HT r1 r2 r3 r4 s1 s2 s3 s4
  intro W HT
  refine wp_region_noPanic ?_
  refine wp_region_held_drew (S := TwoR w g a b c d g' a' b' c' d') (by kernel_rfl) ?_ (fun hHeld => ?_)
  · exact HT.keep (Below.refl _ _).drew
  refine wpAnyH_take (i := 0) (v := .pointer (some ⟨g', 0, none⟩)) rfl (by kernel_rfl) (by kernel_rfl) (by kernel_rfl) (fun _ _ _ h => h) (Or.inl ⟨by rfl, ?y11⟩) (by assumption) ?r11
  case y11 =>
    intro w1 hSw
    go_simp
    try with_reducible rfl
  try simp only [List.getElem_toArray, List.getElem_cons_zero, List.getElem_cons_succ, Act.put, List.setIfInBounds_toArray, List.set_cons_zero, List.set_cons_succ]
  refine wpAnyH_take (i := 1) (v := .pointer (some ⟨g', 0, none⟩)) rfl (by kernel_rfl) (by kernel_rfl) (by kernel_rfl) (fun _ _ _ h => h) (Or.inl ⟨by rfl, ?y12⟩) (by assumption) ?r12
  case y12 =>
    intro w1 hSw
    go_simp
    try with_reducible rfl
  try simp only [List.getElem_toArray, List.getElem_cons_zero, List.getElem_cons_succ, Act.put, List.setIfInBounds_toArray, List.set_cons_zero, List.set_cons_succ]
  refine wpAnyH_take (i := 2) (v := .agg #[.float .f64 a', .float .f64 b', .float .f64 c', .float .f64 d']) rfl (by kernel_rfl) (by kernel_rfl) (by kernel_rfl) (fun _ _ _ h => h) (Or.inl ⟨by rfl, ?y13⟩) (by assumption) ?r13
  case y13 =>
    intro w1 hSw
    obtain ⟨_, k1, k2, k3, k4⟩ := hSw.two
    go_simp
    try with_reducible rfl
  try simp only [List.getElem_toArray, List.getElem_cons_zero, List.getElem_cons_succ, Act.put, List.setIfInBounds_toArray, List.set_cons_zero, List.set_cons_succ]
  refine wpAnyH_take (i := 5) (v := .pointer (some ⟨g, 0, none⟩)) rfl (by kernel_rfl) (by kernel_rfl) (by kernel_rfl) (fun _ _ _ h => h) (Or.inl ⟨by rfl, ?y14⟩) (by assumption) ?r14
  case y14 =>
    intro w1 hSw
    go_simp
    try with_reducible rfl
  try simp only [List.getElem_toArray, List.getElem_cons_zero, List.getElem_cons_succ, Act.put, List.setIfInBounds_toArray, List.set_cons_zero, List.set_cons_succ]
  refine wpAnyH_take (i := 6) (v := .pointer (some ⟨g, 0, none⟩)) rfl (by kernel_rfl) (by kernel_rfl) (by kernel_rfl) (fun _ _ _ h => h) (Or.inl ⟨by rfl, ?y15⟩) (by assumption) ?r15
  case y15 =>
    intro w1 hSw
    go_simp
    try with_reducible rfl
  try simp only [List.getElem_toArray, List.getElem_cons_zero, List.getElem_cons_succ, Act.put, List.setIfInBounds_toArray, List.set_cons_zero, List.set_cons_succ]
  refine wpAnyH_take (i := 7) (v := .agg #[.float .f64 a, .float .f64 b, .float .f64 c, .float .f64 d]) rfl (by kernel_rfl) (by kernel_rfl) (by kernel_rfl) (fun _ _ _ h => h) (Or.inl ⟨by rfl, ?y16⟩) (by assumption) ?r16
  case y16 =>
    intro w1 hSw
    obtain ⟨_, k1, k2, k3, k4⟩ := hSw.one
    go_simp
    try with_reducible rfl
  try simp only [List.getElem_toArray, List.getElem_cons_zero, List.getElem_cons_succ, Act.put, List.setIfInBounds_toArray, List.set_cons_zero, List.set_cons_succ]
  refine wpAnyH_ready (rs := [3]) (by kernel_rfl) (by simp) (AllReadyH.cons rfl (fun K hK => ?_) AllReadyH.nil)
  go_simp
  go_at_call 100
  refine (HHd.out _).mono ?_
  rintro e V11 ⟨rfl, hb11⟩
  refine hK.out _ _ (hHeld.keep hb11) (fun hHeld => ?_)
  clear hK K
  try simp only [List.getElem_toArray, List.getElem_cons_zero, List.getElem_cons_succ, Act.put, List.setIfInBounds_toArray, List.set_cons_zero, List.set_cons_succ]
  refine wpAnyH_take (i := 4) (v := .float .f64 n1) rfl (by kernel_rfl) (by kernel_rfl) (by kernel_rfl) (fun _ _ _ h => h) (Or.inl ⟨by rfl, ?y17⟩) (by assumption) ?r17
  case y17 =>
    intro w1 hSw
    go_simp
    try with_reducible rfl
  try simp only [List.getElem_toArray, List.getElem_cons_zero, List.getElem_cons_succ, Act.put, List.setIfInBounds_toArray, List.set_cons_zero, List.set_cons_succ]
  refine wpAnyH_ready (rs := [8]) (by kernel_rfl) (by simp) (AllReadyH.cons rfl (fun K hK => ?_) AllReadyH.nil)
  go_simp
  go_at_call 100
  refine (HH.out _).mono ?_
  rintro e V12 ⟨rfl, hb12⟩
  refine hK.out _ _ (hHeld.keep hb12) (fun hHeld => ?_)
  clear hK K
  try simp only [List.getElem_toArray, List.getElem_cons_zero, List.getElem_cons_succ, Act.put, List.setIfInBounds_toArray, List.set_cons_zero, List.set_cons_succ]
  refine wpAnyH_take (i := 9) (v := .float .f64 n2) rfl (by kernel_rfl) (by kernel_rfl) (by kernel_rfl) (fun _ _ _ h => h) (Or.inl ⟨by rfl, ?y18⟩) (by assumption) ?r18
  case y18 =>
    intro w1 hSw
    go_simp
    try with_reducible rfl
  try simp only [List.getElem_toArray, List.getElem_cons_zero, List.getElem_cons_succ, Act.put, List.setIfInBounds_toArray, List.set_cons_zero, List.set_cons_succ]
  refine wpAnyH_take (i := 10) (v := .float .f64 n3) rfl (by kernel_rfl) (by kernel_rfl) (by kernel_rfl) (fun _ _ _ h => h) (Or.inl ⟨by rfl, ?y19⟩) (by assumption) ?r19
  case y19 =>
    intro w1 hSw
    go_simp
    try with_reducible rfl
  try simp only [List.getElem_toArray, List.getElem_cons_zero, List.getElem_cons_succ, Act.put, List.setIfInBounds_toArray, List.set_cons_zero, List.set_cons_succ]
  refine wpAnyH_take (i := 11) (v := .float .f64 n3) rfl (by kernel_rfl) (by kernel_rfl) (by kernel_rfl) (fun _ _ _ h => h) (Or.inl ⟨by rfl, ?y20⟩) (by assumption) ?r20
  case y20 =>
    intro w1 hSw
    go_simp
    try with_reducible rfl
  try simp only [List.getElem_toArray, List.getElem_cons_zero, List.getElem_cons_succ, Act.put, List.setIfInBounds_toArray, List.set_cons_zero, List.set_cons_succ]
  refine wpAnyH_done (by kernel_rfl) ?_ _
  refine NoPanic.normal ?_
  have HT := Lib.hid hHeld
  clear hHeld
  obtain ⟨_, r1, r2, r3, r4⟩ := HT.out.one
  obtain ⟨_, s1, s2, s3, s4⟩ := HT.out.two
  go_wp2_with fail
  exact bodyPost_ret (v := .tuple #[.float .f64 x, .float .f64 y, .float .f64 m3, .float .f64 n3, .float .f64 0]) (by simp [results, Try.results97, go_sem]) rfl ⟨rfl, HT.out.below⟩
end Go.Proofs.Ytooghncdhjdcpaa
