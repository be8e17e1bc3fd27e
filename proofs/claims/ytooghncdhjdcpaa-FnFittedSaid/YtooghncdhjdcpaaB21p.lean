/-
The law FnFitted: types.BestFitRectIntoRect walked, the cases of a portrait. Conditions: the operations' words and the tests' answers are given.
-/
import Derived.Test.YtooghncdhjdcpaaB21
namespace Go.Proofs.Ytooghncdhjdcpaa
open Go.RowKit Fl

set_option linter.unusedSimpArgs false in
set_option maxRecDepth 100000 in
set_option maxHeartbeats 8000000 in
theorem fit_P1 {g a b c d g' a' b' c' d' x y X Y r s : Nat} (up orient : Bool) (w : World) (hg : RectAt w g a b c d) (hg' : RectAt w g' a' b' c' d') (hz : Sizes a b c d a' b' c' d' x y X Y r s) (hu : Scales up a b c d a' b' c' d')
    (t1 : gt r w1 = false) (t2 : lt r w1 = true) (t3 : lt s w1 = true) (t4 : lt r s = true) (m n1 n2 : Nat) (hm : floatBits .mul .f64 r Y = some m) (hn1 : floatBits .sub .f64 X m = some n1) (hn2 : floatBits .quo .f64 n1 w2 = some n2) :
    Calls Try.prog 97 #[.pointer (some ⟨g, 0, none⟩), .pointer (some ⟨g', 0, none⟩), .bool orient, .bool up] w fun e w' => e = .returned (.tuple #[.float .f64 m, .float .f64 Y, .float .f64 n2, .float .f64 0, .float .f64 0]) ∧ Below w.heap.size w w' := by
  have HT := Lib.hid (⟨Below.refl _ _, hg, hg'⟩ : TwoR w g a b c d g' a' b' c' d' w)
  obtain ⟨_, r1, r2, r3, r4⟩ := HT.out.one
  obtain ⟨_, s1, s2, s3, s4⟩ := HT.out.two
  have HL := Lib.hid (fun W => land_any (r := r) (v := false) W hz.hx hz.hy hz.hr t1)
  have HP := Lib.hid (fun W => port_any (r := r) (v := true) W hz.hx hz.hy hz.hr t2)
  have HPd := Lib.hid (fun W => port_any (r := s) (v := true) W hz.hX hz.hY hz.hs t3)
  have HA := Lib.hid (fun W => aspect_any (r := r) W hz.hx hz.hy hz.hr)
  have HAd := Lib.hid (fun W => aspect_any (r := s) W hz.hX hz.hY hz.hs)
  have HWd := Lib.hid (fun W => width_any (b := b') (d := d') W hz.hX)
  have HHd := Lib.hid (fun W => height_any (a := a') (c := c') W hz.hY)
  have HS := Lib.hid (fun W => swidth_any W hz.hx hz.hy hz.hr hm)
  have o1 := run_bin (P := Try.prog) .sub hn1
  have o2 := run_bin (P := Try.prog) .quo hn2
  have HU := Lib.hid hu
  clear hg hg' hz hm hn1 hn2 hu t1 t2 t3
  rcases HU.out with rfl | ⟨rfl, hk0⟩
  · clear HU
    go_enter Try.func97, Try.ntmps97
    go_wp2_with (first | (go_at_call 113; (with_reducible refine (HL.out _).mono ?_); rintro e V ⟨rfl, hb⟩; replace HT := Lib.hid (HT.out.keep hb); clear r1 r2 r3 r4 s1 s2 s3 s4; obtain ⟨_, r1, r2, r3, r4⟩ := HT.out.one; obtain ⟨_, s1, s2, s3, s4⟩ := HT.out.two; clear hb) | (go_at_call 114; (with_reducible refine (HP.out _).mono ?_); rintro e V ⟨rfl, hb⟩; replace HT := Lib.hid (HT.out.keep hb); clear r1 r2 r3 r4 s1 s2 s3 s4; obtain ⟨_, r1, r2, r3, r4⟩ := HT.out.one; obtain ⟨_, s1, s2, s3, s4⟩ := HT.out.two; clear hb) | (go_at_call 114; (with_reducible refine (HPd.out _).mono ?_); rintro e V ⟨rfl, hb⟩; replace HT := Lib.hid (HT.out.keep hb); clear r1 r2 r3 r4 s1 s2 s3 s4; obtain ⟨_, r1, r2, r3, r4⟩ := HT.out.one; obtain ⟨_, s1, s2, s3, s4⟩ := HT.out.two; clear hb) | (go_at_call 99; (with_reducible refine (HWd.out _).mono ?_); rintro e V ⟨rfl, hb⟩; replace HT := Lib.hid (HT.out.keep hb); clear r1 r2 r3 r4 s1 s2 s3 s4; obtain ⟨_, r1, r2, r3, r4⟩ := HT.out.one; obtain ⟨_, s1, s2, s3, s4⟩ := HT.out.two; clear hb) | (go_at_call 100; (with_reducible refine (HHd.out _).mono ?_); rintro e V ⟨rfl, hb⟩; replace HT := Lib.hid (HT.out.keep hb); clear r1 r2 r3 r4 s1 s2 s3 s4; obtain ⟨_, r1, r2, r3, r4⟩ := HT.out.one; obtain ⟨_, s1, s2, s3, s4⟩ := HT.out.two; clear hb) | (go_at_call 73; (with_reducible refine (HS.out _).mono ?_); rintro e V ⟨rfl, hb⟩; replace HT := Lib.hid (HT.out.keep hb); clear r1 r2 r3 r4 s1 s2 s3 s4; obtain ⟨_, r1, r2, r3, r4⟩ := HT.out.one; obtain ⟨_, s1, s2, s3, s4⟩ := HT.out.two; clear hb))
    refine wp_abs21 (TwoR w g a b c d g' a' b' c' d') HT.out ?_
    clear HT r1 r2 r3 r4 s1 s2 s3 s4
    intro W HT
    refine wp_region_noPanic ?_
    refine wp_region_held_drew (S := TwoR w g a b c d g' a' b' c' d') (by kernel_rfl) ?_ (fun hHeld => ?_)
    · exact HT.keep (Below.refl _ _).drew
    refine wpAnyH_take (i := 0) (v := .pointer (some ⟨g, 0, none⟩)) rfl (by kernel_rfl) (by kernel_rfl) (by kernel_rfl) (fun _ _ _ h => h) (Or.inl ⟨by rfl, ?y1⟩) (by assumption) ?r1
    case y1 =>
      intro w1 hSw
      go_simp
      try with_reducible rfl
    try simp only [List.getElem_toArray, List.getElem_cons_zero, List.getElem_cons_succ, Act.put, List.setIfInBounds_toArray, List.set_cons_zero, List.set_cons_succ]
    refine wpAnyH_take (i := 1) (v := .pointer (some ⟨g, 0, none⟩)) rfl (by kernel_rfl) (by kernel_rfl) (by kernel_rfl) (fun _ _ _ h => h) (Or.inl ⟨by rfl, ?y2⟩) (by assumption) ?r2
    case y2 =>
      intro w1 hSw
      go_simp
      try with_reducible rfl
    try simp only [List.getElem_toArray, List.getElem_cons_zero, List.getElem_cons_succ, Act.put, List.setIfInBounds_toArray, List.set_cons_zero, List.set_cons_succ]
    refine wpAnyH_take (i := 2) (v := .agg #[.float .f64 a, .float .f64 b, .float .f64 c, .float .f64 d]) rfl (by kernel_rfl) (by kernel_rfl) (by kernel_rfl) (fun _ _ _ h => h) (Or.inl ⟨by rfl, ?y3⟩) (by assumption) ?r3
    case y3 =>
      intro w1 hSw
      obtain ⟨_, k1, k2, k3, k4⟩ := hSw.one
      go_simp
      try with_reducible rfl
    try simp only [List.getElem_toArray, List.getElem_cons_zero, List.getElem_cons_succ, Act.put, List.setIfInBounds_toArray, List.set_cons_zero, List.set_cons_succ]
    refine wpAnyH_take (i := 4) (v := .pointer (some ⟨g', 0, none⟩)) rfl (by kernel_rfl) (by kernel_rfl) (by kernel_rfl) (fun _ _ _ h => h) (Or.inl ⟨by rfl, ?y4⟩) (by assumption) ?r4
    case y4 =>
      intro w1 hSw
      go_simp
      try with_reducible rfl
    try simp only [List.getElem_toArray, List.getElem_cons_zero, List.getElem_cons_succ, Act.put, List.setIfInBounds_toArray, List.set_cons_zero, List.set_cons_succ]
    refine wpAnyH_take (i := 5) (v := .pointer (some ⟨g', 0, none⟩)) rfl (by kernel_rfl) (by kernel_rfl) (by kernel_rfl) (fun _ _ _ h => h) (Or.inl ⟨by rfl, ?y5⟩) (by assumption) ?r5
    case y5 =>
      intro w1 hSw
      go_simp
      try with_reducible rfl
    try simp only [List.getElem_toArray, List.getElem_cons_zero, List.getElem_cons_succ, Act.put, List.setIfInBounds_toArray, List.set_cons_zero, List.set_cons_succ]
    refine wpAnyH_take (i := 6) (v := .agg #[.float .f64 a', .float .f64 b', .float .f64 c', .float .f64 d']) rfl (by kernel_rfl) (by kernel_rfl) (by kernel_rfl) (fun _ _ _ h => h) (Or.inl ⟨by rfl, ?y6⟩) (by assumption) ?r6
    case y6 =>
      intro w1 hSw
      obtain ⟨_, k1, k2, k3, k4⟩ := hSw.two
      go_simp
      try with_reducible rfl
    try simp only [List.getElem_toArray, List.getElem_cons_zero, List.getElem_cons_succ, Act.put, List.setIfInBounds_toArray, List.set_cons_zero, List.set_cons_succ]
    refine wpAnyH_ready (rs := [3]) (by kernel_rfl) (by simp) (AllReadyH.cons rfl (fun K hK => ?_) AllReadyH.nil)
    go_simp
    go_at_call 101
    refine (HA.out _).mono ?_
    rintro e V3 ⟨rfl, hb3⟩
    refine hK.out _ _ (hHeld.keep hb3) (fun hHeld => ?_)
    clear hK K
    try simp only [List.getElem_toArray, List.getElem_cons_zero, List.getElem_cons_succ, Act.put, List.setIfInBounds_toArray, List.set_cons_zero, List.set_cons_succ]
    refine wpAnyH_ready (rs := [7]) (by kernel_rfl) (by simp) (AllReadyH.cons rfl (fun K hK => ?_) AllReadyH.nil)
    go_simp
    go_at_call 101
    refine (HAd.out _).mono ?_
    rintro e V7 ⟨rfl, hb7⟩
    refine hK.out _ _ (hHeld.keep hb7) (fun hHeld => ?_)
    clear hK K
    try simp only [List.getElem_toArray, List.getElem_cons_zero, List.getElem_cons_succ, Act.put, List.setIfInBounds_toArray, List.set_cons_zero, List.set_cons_succ]
    refine wpAnyH_take (i := 8) (v := .bool true) rfl (by kernel_rfl) (by kernel_rfl) (by kernel_rfl) (fun _ _ _ h => h) (Or.inl ⟨by rfl, ?y7⟩) (by assumption) ?r7
    case y7 =>
      intro w1 hSw
      go_simp
      try with_reducible rfl
    try simp only [List.getElem_toArray, List.getElem_cons_zero, List.getElem_cons_succ, Act.put, List.setIfInBounds_toArray, List.set_cons_zero, List.set_cons_succ]
    refine wpAnyH_done (by kernel_rfl) ?_ _
    refine NoPanic.normal ?_
    have HT := Lib.hid hHeld
    clear hHeld t4
    obtain ⟨_, r1, r2, r3, r4⟩ := HT.out.one
    obtain ⟨_, s1, s2, s3, s4⟩ := HT.out.two
    go_wp2_with (first | (go_at_call 113; (with_reducible refine (HL.out _).mono ?_); rintro e V ⟨rfl, hb⟩; replace HT := Lib.hid (HT.out.keep hb); clear r1 r2 r3 r4 s1 s2 s3 s4; obtain ⟨_, r1, r2, r3, r4⟩ := HT.out.one; obtain ⟨_, s1, s2, s3, s4⟩ := HT.out.two; clear hb) | (go_at_call 114; (with_reducible refine (HP.out _).mono ?_); rintro e V ⟨rfl, hb⟩; replace HT := Lib.hid (HT.out.keep hb); clear r1 r2 r3 r4 s1 s2 s3 s4; obtain ⟨_, r1, r2, r3, r4⟩ := HT.out.one; obtain ⟨_, s1, s2, s3, s4⟩ := HT.out.two; clear hb) | (go_at_call 114; (with_reducible refine (HPd.out _).mono ?_); rintro e V ⟨rfl, hb⟩; replace HT := Lib.hid (HT.out.keep hb); clear r1 r2 r3 r4 s1 s2 s3 s4; obtain ⟨_, r1, r2, r3, r4⟩ := HT.out.one; obtain ⟨_, s1, s2, s3, s4⟩ := HT.out.two; clear hb) | (go_at_call 99; (with_reducible refine (HWd.out _).mono ?_); rintro e V ⟨rfl, hb⟩; replace HT := Lib.hid (HT.out.keep hb); clear r1 r2 r3 r4 s1 s2 s3 s4; obtain ⟨_, r1, r2, r3, r4⟩ := HT.out.one; obtain ⟨_, s1, s2, s3, s4⟩ := HT.out.two; clear hb) | (go_at_call 100; (with_reducible refine (HHd.out _).mono ?_); rintro e V ⟨rfl, hb⟩; replace HT := Lib.hid (HT.out.keep hb); clear r1 r2 r3 r4 s1 s2 s3 s4; obtain ⟨_, r1, r2, r3, r4⟩ := HT.out.one; obtain ⟨_, s1, s2, s3, s4⟩ := HT.out.two; clear hb) | (go_at_call 73; (with_reducible refine (HS.out _).mono ?_); rintro e V ⟨rfl, hb⟩; replace HT := Lib.hid (HT.out.keep hb); clear r1 r2 r3 r4 s1 s2 s3 s4; obtain ⟨_, r1, r2, r3, r4⟩ := HT.out.one; obtain ⟨_, s1, s2, s3, s4⟩ := HT.out.two; clear hb))
    exact bodyPost_ret (v := .tuple #[.float .f64 m, .float .f64 Y, .float .f64 n2, .float .f64 0, .float .f64 0]) (by simp [results, Try.results97, go_sem]) rfl ⟨rfl, HT.out.below⟩
  · have HK := Lib.hid hk0
    clear HU hk0
    go_enter Try.func97, Try.ntmps97
    go_wp2_with (first | (go_at_call 69; (with_reducible refine (HK.out _ g' HT.out.two).mono ?_); rintro e V ⟨rfl, hb⟩; replace HT := Lib.hid (HT.out.keep hb); clear r1 r2 r3 r4 s1 s2 s3 s4; obtain ⟨_, r1, r2, r3, r4⟩ := HT.out.one; obtain ⟨_, s1, s2, s3, s4⟩ := HT.out.two; clear hb) | (go_at_call 113; (with_reducible refine (HL.out _).mono ?_); rintro e V ⟨rfl, hb⟩; replace HT := Lib.hid (HT.out.keep hb); clear r1 r2 r3 r4 s1 s2 s3 s4; obtain ⟨_, r1, r2, r3, r4⟩ := HT.out.one; obtain ⟨_, s1, s2, s3, s4⟩ := HT.out.two; clear hb) | (go_at_call 114; (with_reducible refine (HP.out _).mono ?_); rintro e V ⟨rfl, hb⟩; replace HT := Lib.hid (HT.out.keep hb); clear r1 r2 r3 r4 s1 s2 s3 s4; obtain ⟨_, r1, r2, r3, r4⟩ := HT.out.one; obtain ⟨_, s1, s2, s3, s4⟩ := HT.out.two; clear hb) | (go_at_call 114; (with_reducible refine (HPd.out _).mono ?_); rintro e V ⟨rfl, hb⟩; replace HT := Lib.hid (HT.out.keep hb); clear r1 r2 r3 r4 s1 s2 s3 s4; obtain ⟨_, r1, r2, r3, r4⟩ := HT.out.one; obtain ⟨_, s1, s2, s3, s4⟩ := HT.out.two; clear hb) | (go_at_call 99; (with_reducible refine (HWd.out _).mono ?_); rintro e V ⟨rfl, hb⟩; replace HT := Lib.hid (HT.out.keep hb); clear r1 r2 r3 r4 s1 s2 s3 s4; obtain ⟨_, r1, r2, r3, r4⟩ := HT.out.one; obtain ⟨_, s1, s2, s3, s4⟩ := HT.out.two; clear hb) | (go_at_call 100; (with_reducible refine (HHd.out _).mono ?_); rintro e V ⟨rfl, hb⟩; replace HT := Lib.hid (HT.out.keep hb); clear r1 r2 r3 r4 s1 s2 s3 s4; obtain ⟨_, r1, r2, r3, r4⟩ := HT.out.one; obtain ⟨_, s1, s2, s3, s4⟩ := HT.out.two; clear hb) | (go_at_call 73; (with_reducible refine (HS.out _).mono ?_); rintro e V ⟨rfl, hb⟩; replace HT := Lib.hid (HT.out.keep hb); clear r1 r2 r3 r4 s1 s2 s3 s4; obtain ⟨_, r1, r2, r3, r4⟩ := HT.out.one; obtain ⟨_, s1, s2, s3, s4⟩ := HT.out.two; clear hb))
    refine wp_abs21 (TwoR w g a b c d g' a' b' c' d') HT.out ?_
    clear HT r1 r2 r3 r4 s1 s2 s3 s4
    intro W HT
    refine wp_region_noPanic ?_
    refine wp_region_held_drew (S := TwoR w g a b c d g' a' b' c' d') (by kernel_rfl) ?_ (fun hHeld => ?_)
    · exact HT.keep (Below.refl _ _).drew
    refine wpAnyH_take (i := 0) (v := .pointer (some ⟨g, 0, none⟩)) rfl (by kernel_rfl) (by kernel_rfl) (by kernel_rfl) (fun _ _ _ h => h) (Or.inl ⟨by rfl, ?y8⟩) (by assumption) ?r8
    case y8 =>
      intro w1 hSw
      go_simp
      try with_reducible rfl
    try simp only [List.getElem_toArray, List.getElem_cons_zero, List.getElem_cons_succ, Act.put, List.setIfInBounds_toArray, List.set_cons_zero, List.set_cons_succ]
    refine wpAnyH_take (i := 1) (v := .pointer (some ⟨g, 0, none⟩)) rfl (by kernel_rfl) (by kernel_rfl) (by kernel_rfl) (fun _ _ _ h => h) (Or.inl ⟨by rfl, ?y9⟩) (by assumption) ?r9
    case y9 =>
      intro w1 hSw
      go_simp
      try with_reducible rfl
    try simp only [List.getElem_toArray, List.getElem_cons_zero, List.getElem_cons_succ, Act.put, List.setIfInBounds_toArray, List.set_cons_zero, List.set_cons_succ]
    refine wpAnyH_take (i := 2) (v := .agg #[.float .f64 a, .float .f64 b, .float .f64 c, .float .f64 d]) rfl (by kernel_rfl) (by kernel_rfl) (by kernel_rfl) (fun _ _ _ h => h) (Or.inl ⟨by rfl, ?y10⟩) (by assumption) ?r10
    case y10 =>
      intro w1 hSw
      obtain ⟨_, k1, k2, k3, k4⟩ := hSw.one
      go_simp
      try with_reducible rfl
    try simp only [List.getElem_toArray, List.getElem_cons_zero, List.getElem_cons_succ, Act.put, List.setIfInBounds_toArray, List.set_cons_zero, List.set_cons_succ]
    refine wpAnyH_take (i := 4) (v := .pointer (some ⟨g', 0, none⟩)) rfl (by kernel_rfl) (by kernel_rfl) (by kernel_rfl) (fun _ _ _ h => h) (Or.inl ⟨by rfl, ?y11⟩) (by assumption) ?r11
    case y11 =>
      intro w1 hSw
      go_simp
      try with_reducible rfl
    try simp only [List.getElem_toArray, List.getElem_cons_zero, List.getElem_cons_succ, Act.put, List.setIfInBounds_toArray, List.set_cons_zero, List.set_cons_succ]
    refine wpAnyH_take (i := 5) (v := .pointer (some ⟨g', 0, none⟩)) rfl (by kernel_rfl) (by kernel_rfl) (by kernel_rfl) (fun _ _ _ h => h) (Or.inl ⟨by rfl, ?y12⟩) (by assumption) ?r12
    case y12 =>
      intro w1 hSw
      go_simp
      try with_reducible rfl
    try simp only [List.getElem_toArray, List.getElem_cons_zero, List.getElem_cons_succ, Act.put, List.setIfInBounds_toArray, List.set_cons_zero, List.set_cons_succ]
    refine wpAnyH_take (i := 6) (v := .agg #[.float .f64 a', .float .f64 b', .float .f64 c', .float .f64 d']) rfl (by kernel_rfl) (by kernel_rfl) (by kernel_rfl) (fun _ _ _ h => h) (Or.inl ⟨by rfl, ?y13⟩) (by assumption) ?r13
    case y13 =>
      intro w1 hSw
      obtain ⟨_, k1, k2, k3, k4⟩ := hSw.two
      go_simp
      try with_reducible rfl
    try simp only [List.getElem_toArray, List.getElem_cons_zero, List.getElem_cons_succ, Act.put, List.setIfInBounds_toArray, List.set_cons_zero, List.set_cons_succ]
    refine wpAnyH_ready (rs := [3]) (by kernel_rfl) (by simp) (AllReadyH.cons rfl (fun K hK => ?_) AllReadyH.nil)
    go_simp
    go_at_call 101
    refine (HA.out _).mono ?_
    rintro e V3 ⟨rfl, hb3⟩
    refine hK.out _ _ (hHeld.keep hb3) (fun hHeld => ?_)
    clear hK K
    try simp only [List.getElem_toArray, List.getElem_cons_zero, List.getElem_cons_succ, Act.put, List.setIfInBounds_toArray, List.set_cons_zero, List.set_cons_succ]
    refine wpAnyH_ready (rs := [7]) (by kernel_rfl) (by simp) (AllReadyH.cons rfl (fun K hK => ?_) AllReadyH.nil)
    go_simp
    go_at_call 101
    refine (HAd.out _).mono ?_
    rintro e V7 ⟨rfl, hb7⟩
    refine hK.out _ _ (hHeld.keep hb7) (fun hHeld => ?_)
    clear hK K
    try simp only [List.getElem_toArray, List.getElem_cons_zero, List.getElem_cons_succ, Act.put, List.setIfInBounds_toArray, List.set_cons_zero, List.set_cons_succ]
    refine wpAnyH_take (i := 8) (v := .bool true) rfl (by kernel_rfl) (by kernel_rfl) (by kernel_rfl) (fun _ _ _ h => h) (Or.inl ⟨by rfl, ?y14⟩) (by assumption) ?r14
    case y14 =>
      intro w1 hSw
      go_simp
      try with_reducible rfl
    try simp only [List.getElem_toArray, List.getElem_cons_zero, List.getElem_cons_succ, Act.put, List.setIfInBounds_toArray, List.set_cons_zero, List.set_cons_succ]
    refine wpAnyH_done (by kernel_rfl) ?_ _
    refine NoPanic.normal ?_
    have HT := Lib.hid hHeld
    clear hHeld t4
    obtain ⟨_, r1, r2, r3, r4⟩ := HT.out.one
    obtain ⟨_, s1, s2, s3, s4⟩ := HT.out.two
    go_wp2_with (first | (go_at_call 69; (with_reducible refine (HK.out _ g' HT.out.two).mono ?_); rintro e V ⟨rfl, hb⟩; replace HT := Lib.hid (HT.out.keep hb); clear r1 r2 r3 r4 s1 s2 s3 s4; obtain ⟨_, r1, r2, r3, r4⟩ := HT.out.one; obtain ⟨_, s1, s2, s3, s4⟩ := HT.out.two; clear hb) | (go_at_call 113; (with_reducible refine (HL.out _).mono ?_); rintro e V ⟨rfl, hb⟩; replace HT := Lib.hid (HT.out.keep hb); clear r1 r2 r3 r4 s1 s2 s3 s4; obtain ⟨_, r1, r2, r3, r4⟩ := HT.out.one; obtain ⟨_, s1, s2, s3, s4⟩ := HT.out.two; clear hb) | (go_at_call 114; (with_reducible refine (HP.out _).mono ?_); rintro e V ⟨rfl, hb⟩; replace HT := Lib.hid (HT.out.keep hb); clear r1 r2 r3 r4 s1 s2 s3 s4; obtain ⟨_, r1, r2, r3, r4⟩ := HT.out.one; obtain ⟨_, s1, s2, s3, s4⟩ := HT.out.two; clear hb) | (go_at_call 114; (with_reducible refine (HPd.out _).mono ?_); rintro e V ⟨rfl, hb⟩; replace HT := Lib.hid (HT.out.keep hb); clear r1 r2 r3 r4 s1 s2 s3 s4; obtain ⟨_, r1, r2, r3, r4⟩ := HT.out.one; obtain ⟨_, s1, s2, s3, s4⟩ := HT.out.two; clear hb) | (go_at_call 99; (with_reducible refine (HWd.out _).mono ?_); rintro e V ⟨rfl, hb⟩; replace HT := Lib.hid (HT.out.keep hb); clear r1 r2 r3 r4 s1 s2 s3 s4; obtain ⟨_, r1, r2, r3, r4⟩ := HT.out.one; obtain ⟨_, s1, s2, s3, s4⟩ := HT.out.two; clear hb) | (go_at_call 100; (with_reducible refine (HHd.out _).mono ?_); rintro e V ⟨rfl, hb⟩; replace HT := Lib.hid (HT.out.keep hb); clear r1 r2 r3 r4 s1 s2 s3 s4; obtain ⟨_, r1, r2, r3, r4⟩ := HT.out.one; obtain ⟨_, s1, s2, s3, s4⟩ := HT.out.two; clear hb) | (go_at_call 73; (with_reducible refine (HS.out _).mono ?_); rintro e V ⟨rfl, hb⟩; replace HT := Lib.hid (HT.out.keep hb); clear r1 r2 r3 r4 s1 s2 s3 s4; obtain ⟨_, r1, r2, r3, r4⟩ := HT.out.one; obtain ⟨_, s1, s2, s3, s4⟩ := HT.out.two; clear hb))
    exact bodyPost_ret (v := .tuple #[.float .f64 m, .float .f64 Y, .float .f64 n2, .float .f64 0, .float .f64 0]) (by simp [results, Try.results97, go_sem]) rfl ⟨rfl, HT.out.below⟩
set_option linter.unusedSimpArgs false in
set_option maxRecDepth 100000 in
set_option maxHeartbeats 8000000 in
theorem fit_P2 {g a b c d g' a' b' c' d' x y X Y r s : Nat} (up orient : Bool) (w : World) (hg : RectAt w g a b c d) (hg' : RectAt w g' a' b' c' d') (hz : Sizes a b c d a' b' c' d' x y X Y r s) (hu : Scales up a b c d a' b' c' d')
    (t1 : gt r w1 = false) (t2 : lt r w1 = true) (t3 : lt s w1 = true) (t4 : lt r s = false) (m n1 n2 : Nat) (hm : floatBits .quo .f64 X r = some m) (hn1 : floatBits .sub .f64 Y m = some n1) (hn2 : floatBits .quo .f64 n1 w2 = some n2) :
    Calls Try.prog 97 #[.pointer (some ⟨g, 0, none⟩), .pointer (some ⟨g', 0, none⟩), .bool orient, .bool up] w fun e w' => e = .returned (.tuple #[.float .f64 X, .float .f64 m, .float .f64 0, .float .f64 n2, .float .f64 0]) ∧ Below w.heap.size w w' := by
  have HT := Lib.hid (⟨Below.refl _ _, hg, hg'⟩ : TwoR w g a b c d g' a' b' c' d' w)
  obtain ⟨_, r1, r2, r3, r4⟩ := HT.out.one
  obtain ⟨_, s1, s2, s3, s4⟩ := HT.out.two
  have HL := Lib.hid (fun W => land_any (r := r) (v := false) W hz.hx hz.hy hz.hr t1)
  have HP := Lib.hid (fun W => port_any (r := r) (v := true) W hz.hx hz.hy hz.hr t2)
  have HPd := Lib.hid (fun W => port_any (r := s) (v := true) W hz.hX hz.hY hz.hs t3)
  have HA := Lib.hid (fun W => aspect_any (r := r) W hz.hx hz.hy hz.hr)
  have HAd := Lib.hid (fun W => aspect_any (r := s) W hz.hX hz.hY hz.hs)
  have HWd := Lib.hid (fun W => width_any (b := b') (d := d') W hz.hX)
  have HHd := Lib.hid (fun W => height_any (a := a') (c := c') W hz.hY)
  have HS := Lib.hid (fun W => sheight_any W hz.hx hz.hy hz.hr hm)
  have o1 := run_bin (P := Try.prog) .sub hn1
  have o2 := run_bin (P := Try.prog) .quo hn2
  have HU := Lib.hid hu
  clear hg hg' hz hm hn1 hn2 hu t1 t2 t3
  rcases HU.out with rfl | ⟨rfl, hk0⟩
  · clear HU
    go_enter Try.func97, Try.ntmps97
    go_wp2_with (first | (go_at_call 113; (with_reducible refine (HL.out _).mono ?_); rintro e V ⟨rfl, hb⟩; replace HT := Lib.hid (HT.out.keep hb); clear r1 r2 r3 r4 s1 s2 s3 s4; obtain ⟨_, r1, r2, r3, r4⟩ := HT.out.one; obtain ⟨_, s1, s2, s3, s4⟩ := HT.out.two; clear hb) | (go_at_call 114; (with_reducible refine (HP.out _).mono ?_); rintro e V ⟨rfl, hb⟩; replace HT := Lib.hid (HT.out.keep hb); clear r1 r2 r3 r4 s1 s2 s3 s4; obtain ⟨_, r1, r2, r3, r4⟩ := HT.out.one; obtain ⟨_, s1, s2, s3, s4⟩ := HT.out.two; clear hb) | (go_at_call 114; (with_reducible refine (HPd.out _).mono ?_); rintro e V ⟨rfl, hb⟩; replace HT := Lib.hid (HT.out.keep hb); clear r1 r2 r3 r4 s1 s2 s3 s4; obtain ⟨_, r1, r2, r3, r4⟩ := HT.out.one; obtain ⟨_, s1, s2, s3, s4⟩ := HT.out.two; clear hb) | (go_at_call 99; (with_reducible refine (HWd.out _).mono ?_); rintro e V ⟨rfl, hb⟩; replace HT := Lib.hid (HT.out.keep hb); clear r1 r2 r3 r4 s1 s2 s3 s4; obtain ⟨_, r1, r2, r3, r4⟩ := HT.out.one; obtain ⟨_, s1, s2, s3, s4⟩ := HT.out.two; clear hb) | (go_at_call 100; (with_reducible refine (HHd.out _).mono ?_); rintro e V ⟨rfl, hb⟩; replace HT := Lib.hid (HT.out.keep hb); clear r1 r2 r3 r4 s1 s2 s3 s4; obtain ⟨_, r1, r2, r3, r4⟩ := HT.out.one; obtain ⟨_, s1, s2, s3, s4⟩ := HT.out.two; clear hb) | (go_at_call 72; (with_reducible refine (HS.out _).mono ?_); rintro e V ⟨rfl, hb⟩; replace HT := Lib.hid (HT.out.keep hb); clear r1 r2 r3 r4 s1 s2 s3 s4; obtain ⟨_, r1, r2, r3, r4⟩ := HT.out.one; obtain ⟨_, s1, s2, s3, s4⟩ := HT.out.two; clear hb))
    refine wp_abs21 (TwoR w g a b c d g' a' b' c' d') HT.out ?_
    clear HT r1 r2 r3 r4 s1 s2 s3 s4
    intro W HT
    refine wp_region_noPanic ?_
    refine wp_region_held_drew (S := TwoR w g a b c d g' a' b' c' d') (by kernel_rfl) ?_ (fun hHeld => ?_)
    · exact HT.keep (Below.refl _ _).drew
    refine wpAnyH_take (i := 0) (v := .pointer (some ⟨g, 0, none⟩)) rfl (by kernel_rfl) (by kernel_rfl) (by kernel_rfl) (fun _ _ _ h => h) (Or.inl ⟨by rfl, ?y15⟩) (by assumption) ?r15
    case y15 =>
      intro w1 hSw
      go_simp
      try with_reducible rfl
    try simp only [List.getElem_toArray, List.getElem_cons_zero, List.getElem_cons_succ, Act.put, List.setIfInBounds_toArray, List.set_cons_zero, List.set_cons_succ]
    refine wpAnyH_take (i := 1) (v := .pointer (some ⟨g, 0, none⟩)) rfl (by kernel_rfl) (by kernel_rfl) (by kernel_rfl) (fun _ _ _ h => h) (Or.inl ⟨by rfl, ?y16⟩) (by assumption) ?r16
    case y16 =>
      intro w1 hSw
      go_simp
      try with_reducible rfl
    try simp only [List.getElem_toArray, List.getElem_cons_zero, List.getElem_cons_succ, Act.put, List.setIfInBounds_toArray, List.set_cons_zero, List.set_cons_succ]
    refine wpAnyH_take (i := 2) (v := .agg #[.float .f64 a, .float .f64 b, .float .f64 c, .float .f64 d]) rfl (by kernel_rfl) (by kernel_rfl) (by kernel_rfl) (fun _ _ _ h => h) (Or.inl ⟨by rfl, ?y17⟩) (by assumption) ?r17
    case y17 =>
      intro w1 hSw
      obtain ⟨_, k1, k2, k3, k4⟩ := hSw.one
      go_simp
      try with_reducible rfl
    try simp only [List.getElem_toArray, List.getElem_cons_zero, List.getElem_cons_succ, Act.put, List.setIfInBounds_toArray, List.set_cons_zero, List.set_cons_succ]
    refine wpAnyH_take (i := 4) (v := .pointer (some ⟨g', 0, none⟩)) rfl (by kernel_rfl) (by kernel_rfl) (by kernel_rfl) (fun _ _ _ h => h) (Or.inl ⟨by rfl, ?y18⟩) (by assumption) ?r18
    case y18 =>
      intro w1 hSw
      go_simp
      try with_reducible rfl
    try simp only [List.getElem_toArray, List.getElem_cons_zero, List.getElem_cons_succ, Act.put, List.setIfInBounds_toArray, List.set_cons_zero, List.set_cons_succ]
    refine wpAnyH_take (i := 5) (v := .pointer (some ⟨g', 0, none⟩)) rfl (by kernel_rfl) (by kernel_rfl) (by kernel_rfl) (fun _ _ _ h => h) (Or.inl ⟨by rfl, ?y19⟩) (by assumption) ?r19
    case y19 =>
      intro w1 hSw
      go_simp
      try with_reducible rfl
    try simp only [List.getElem_toArray, List.getElem_cons_zero, List.getElem_cons_succ, Act.put, List.setIfInBounds_toArray, List.set_cons_zero, List.set_cons_succ]
    refine wpAnyH_take (i := 6) (v := .agg #[.float .f64 a', .float .f64 b', .float .f64 c', .float .f64 d']) rfl (by kernel_rfl) (by kernel_rfl) (by kernel_rfl) (fun _ _ _ h => h) (Or.inl ⟨by rfl, ?y20⟩) (by assumption) ?r20
    case y20 =>
      intro w1 hSw
      obtain ⟨_, k1, k2, k3, k4⟩ := hSw.two
      go_simp
      try with_reducible rfl
    try simp only [List.getElem_toArray, List.getElem_cons_zero, List.getElem_cons_succ, Act.put, List.setIfInBounds_toArray, List.set_cons_zero, List.set_cons_succ]
    refine wpAnyH_ready (rs := [3]) (by kernel_rfl) (by simp) (AllReadyH.cons rfl (fun K hK => ?_) AllReadyH.nil)
    go_simp
    go_at_call 101
    refine (HA.out _).mono ?_
    rintro e V3 ⟨rfl, hb3⟩
    refine hK.out _ _ (hHeld.keep hb3) (fun hHeld => ?_)
    clear hK K
    try simp only [List.getElem_toArray, List.getElem_cons_zero, List.getElem_cons_succ, Act.put, List.setIfInBounds_toArray, List.set_cons_zero, List.set_cons_succ]
    refine wpAnyH_ready (rs := [7]) (by kernel_rfl) (by simp) (AllReadyH.cons rfl (fun K hK => ?_) AllReadyH.nil)
    go_simp
    go_at_call 101
    refine (HAd.out _).mono ?_
    rintro e V7 ⟨rfl, hb7⟩
    refine hK.out _ _ (hHeld.keep hb7) (fun hHeld => ?_)
    clear hK K
    try simp only [List.getElem_toArray, List.getElem_cons_zero, List.getElem_cons_succ, Act.put, List.setIfInBounds_toArray, List.set_cons_zero, List.set_cons_succ]
    refine wpAnyH_take (i := 8) (v := .bool false) rfl (by kernel_rfl) (by kernel_rfl) (by kernel_rfl) (fun _ _ _ h => h) (Or.inl ⟨by rfl, ?y21⟩) (by assumption) ?r21
    case y21 =>
      intro w1 hSw
      go_simp
      try with_reducible rfl
    try simp only [List.getElem_toArray, List.getElem_cons_zero, List.getElem_cons_succ, Act.put, List.setIfInBounds_toArray, List.set_cons_zero, List.set_cons_succ]
    refine wpAnyH_done (by kernel_rfl) ?_ _
    refine NoPanic.normal ?_
    have HT := Lib.hid hHeld
    clear hHeld t4
    obtain ⟨_, r1, r2, r3, r4⟩ := HT.out.one
    obtain ⟨_, s1, s2, s3, s4⟩ := HT.out.two
    go_wp2_with (first | (go_at_call 113; (with_reducible refine (HL.out _).mono ?_); rintro e V ⟨rfl, hb⟩; replace HT := Lib.hid (HT.out.keep hb); clear r1 r2 r3 r4 s1 s2 s3 s4; obtain ⟨_, r1, r2, r3, r4⟩ := HT.out.one; obtain ⟨_, s1, s2, s3, s4⟩ := HT.out.two; clear hb) | (go_at_call 114; (with_reducible refine (HP.out _).mono ?_); rintro e V ⟨rfl, hb⟩; replace HT := Lib.hid (HT.out.keep hb); clear r1 r2 r3 r4 s1 s2 s3 s4; obtain ⟨_, r1, r2, r3, r4⟩ := HT.out.one; obtain ⟨_, s1, s2, s3, s4⟩ := HT.out.two; clear hb) | (go_at_call 114; (with_reducible refine (HPd.out _).mono ?_); rintro e V ⟨rfl, hb⟩; replace HT := Lib.hid (HT.out.keep hb); clear r1 r2 r3 r4 s1 s2 s3 s4; obtain ⟨_, r1, r2, r3, r4⟩ := HT.out.one; obtain ⟨_, s1, s2, s3, s4⟩ := HT.out.two; clear hb) | (go_at_call 99; (with_reducible refine (HWd.out _).mono ?_); rintro e V ⟨rfl, hb⟩; replace HT := Lib.hid (HT.out.keep hb); clear r1 r2 r3 r4 s1 s2 s3 s4; obtain ⟨_, r1, r2, r3, r4⟩ := HT.out.one; obtain ⟨_, s1, s2, s3, s4⟩ := HT.out.two; clear hb) | (go_at_call 100; (with_reducible refine (HHd.out _).mono ?_); rintro e V ⟨rfl, hb⟩; replace HT := Lib.hid (HT.out.keep hb); clear r1 r2 r3 r4 s1 s2 s3 s4; obtain ⟨_, r1, r2, r3, r4⟩ := HT.out.one; obtain ⟨_, s1, s2, s3, s4⟩ := HT.out.two; clear hb) | (go_at_call 72; (with_reducible refine (HS.out _).mono ?_); rintro e V ⟨rfl, hb⟩; replace HT := Lib.hid (HT.out.keep hb); clear r1 r2 r3 r4 s1 s2 s3 s4; obtain ⟨_, r1, r2, r3, r4⟩ := HT.out.one; obtain ⟨_, s1, s2, s3, s4⟩ := HT.out.two; clear hb))
    exact bodyPost_ret (v := .tuple #[.float .f64 X, .float .f64 m, .float .f64 0, .float .f64 n2, .float .f64 0]) (by simp [results, Try.results97, go_sem]) rfl ⟨rfl, HT.out.below⟩
  · have HK := Lib.hid hk0
    clear HU hk0
    go_enter Try.func97, Try.ntmps97
    go_wp2_with (first | (go_at_call 69; (with_reducible refine (HK.out _ g' HT.out.two).mono ?_); rintro e V ⟨rfl, hb⟩; replace HT := Lib.hid (HT.out.keep hb); clear r1 r2 r3 r4 s1 s2 s3 s4; obtain ⟨_, r1, r2, r3, r4⟩ := HT.out.one; obtain ⟨_, s1, s2, s3, s4⟩ := HT.out.two; clear hb) | (go_at_call 113; (with_reducible refine (HL.out _).mono ?_); rintro e V ⟨rfl, hb⟩; replace HT := Lib.hid (HT.out.keep hb); clear r1 r2 r3 r4 s1 s2 s3 s4; obtain ⟨_, r1, r2, r3, r4⟩ := HT.out.one; obtain ⟨_, s1, s2, s3, s4⟩ := HT.out.two; clear hb) | (go_at_call 114; (with_reducible refine (HP.out _).mono ?_); rintro e V ⟨rfl, hb⟩; replace HT := Lib.hid (HT.out.keep hb); clear r1 r2 r3 r4 s1 s2 s3 s4; obtain ⟨_, r1, r2, r3, r4⟩ := HT.out.one; obtain ⟨_, s1, s2, s3, s4⟩ := HT.out.two; clear hb) | (go_at_call 114; (with_reducible refine (HPd.out _).mono ?_); rintro e V ⟨rfl, hb⟩; replace HT := Lib.hid (HT.out.keep hb); clear r1 r2 r3 r4 s1 s2 s3 s4; obtain ⟨_, r1, r2, r3, r4⟩ := HT.out.one; obtain ⟨_, s1, s2, s3, s4⟩ := HT.out.two; clear hb) | (go_at_call 99; (with_reducible refine (HWd.out _).mono ?_); rintro e V ⟨rfl, hb⟩; replace HT := Lib.hid (HT.out.keep hb); clear r1 r2 r3 r4 s1 s2 s3 s4; obtain ⟨_, r1, r2, r3, r4⟩ := HT.out.one; obtain ⟨_, s1, s2, s3, s4⟩ := HT.out.two; clear hb) | (go_at_call 100; (with_reducible refine (HHd.out _).mono ?_); rintro e V ⟨rfl, hb⟩; replace HT := Lib.hid (HT.out.keep hb); clear r1 r2 r3 r4 s1 s2 s3 s4; obtain ⟨_, r1, r2, r3, r4⟩ := HT.out.one; obtain ⟨_, s1, s2, s3, s4⟩ := HT.out.two; clear hb) | (go_at_call 72; (with_reducible refine (HS.out _).mono ?_); rintro e V ⟨rfl, hb⟩; replace HT := Lib.hid (HT.out.keep hb); clear r1 r2 r3 r4 s1 s2 s3 s4; obtain ⟨_, r1, r2, r3, r4⟩ := HT.out.one; obtain ⟨_, s1, s2, s3, s4⟩ := HT.out.two; clear hb))
    refine wp_abs21 (TwoR w g a b c d g' a' b' c' d') HT.out ?_
    clear HT r1 r2 r3 r4 s1 s2 s3 s4
    intro W HT
    refine wp_region_noPanic ?_
    refine wp_region_held_drew (S := TwoR w g a b c d g' a' b' c' d') (by kernel_rfl) ?_ (fun hHeld => ?_)
    · exact HT.keep (Below.refl _ _).drew
    refine wpAnyH_take (i := 0) (v := .pointer (some ⟨g, 0, none⟩)) rfl (by kernel_rfl) (by kernel_rfl) (by kernel_rfl) (fun _ _ _ h => h) (Or.inl ⟨by rfl, ?y22⟩) (by assumption) ?r22
    case y22 =>
      intro w1 hSw
      go_simp
      try with_reducible rfl
    try simp only [List.getElem_toArray, List.getElem_cons_zero, List.getElem_cons_succ, Act.put, List.setIfInBounds_toArray, List.set_cons_zero, List.set_cons_succ]
    refine wpAnyH_take (i := 1) (v := .pointer (some ⟨g, 0, none⟩)) rfl (by kernel_rfl) (by kernel_rfl) (by kernel_rfl) (fun _ _ _ h => h) (Or.inl ⟨by rfl, ?y23⟩) (by assumption) ?r23
    case y23 =>
      intro w1 hSw
      go_simp
      try with_reducible rfl
    try simp only [List.getElem_toArray, List.getElem_cons_zero, List.getElem_cons_succ, Act.put, List.setIfInBounds_toArray, List.set_cons_zero, List.set_cons_succ]
    refine wpAnyH_take (i := 2) (v := .agg #[.float .f64 a, .float .f64 b, .float .f64 c, .float .f64 d]) rfl (by kernel_rfl) (by kernel_rfl) (by kernel_rfl) (fun _ _ _ h => h) (Or.inl ⟨by rfl, ?y24⟩) (by assumption) ?r24
    case y24 =>
      intro w1 hSw
      obtain ⟨_, k1, k2, k3, k4⟩ := hSw.one
      go_simp
      try with_reducible rfl
    try simp only [List.getElem_toArray, List.getElem_cons_zero, List.getElem_cons_succ, Act.put, List.setIfInBounds_toArray, List.set_cons_zero, List.set_cons_succ]
    refine wpAnyH_take (i := 4) (v := .pointer (some ⟨g', 0, none⟩)) rfl (by kernel_rfl) (by kernel_rfl) (by kernel_rfl) (fun _ _ _ h => h) (Or.inl ⟨by rfl, ?y25⟩) (by assumption) ?r25
    case y25 =>
      intro w1 hSw
      go_simp
      try with_reducible rfl
    try simp only [List.getElem_toArray, List.getElem_cons_zero, List.getElem_cons_succ, Act.put, List.setIfInBounds_toArray, List.set_cons_zero, List.set_cons_succ]
    refine wpAnyH_take (i := 5) (v := .pointer (some ⟨g', 0, none⟩)) rfl (by kernel_rfl) (by kernel_rfl) (by kernel_rfl) (fun _ _ _ h => h) (Or.inl ⟨by rfl, ?y26⟩) (by assumption) ?r26
    case y26 =>
      intro w1 hSw
      go_simp
      try with_reducible rfl
    try simp only [List.getElem_toArray, List.getElem_cons_zero, List.getElem_cons_succ, Act.put, List.setIfInBounds_toArray, List.set_cons_zero, List.set_cons_succ]
    refine wpAnyH_take (i := 6) (v := .agg #[.float .f64 a', .float .f64 b', .float .f64 c', .float .f64 d']) rfl (by kernel_rfl) (by kernel_rfl) (by kernel_rfl) (fun _ _ _ h => h) (Or.inl ⟨by rfl, ?y27⟩) (by assumption) ?r27
    case y27 =>
      intro w1 hSw
      obtain ⟨_, k1, k2, k3, k4⟩ := hSw.two
      go_simp
      try with_reducible rfl
    try simp only [List.getElem_toArray, List.getElem_cons_zero, List.getElem_cons_succ, Act.put, List.setIfInBounds_toArray, List.set_cons_zero, List.set_cons_succ]
    refine wpAnyH_ready (rs := [3]) (by kernel_rfl) (by simp) (AllReadyH.cons rfl (fun K hK => ?_) AllReadyH.nil)
    go_simp
    go_at_call 101
    refine (HA.out _).mono ?_
    rintro e V3 ⟨rfl, hb3⟩
    refine hK.out _ _ (hHeld.keep hb3) (fun hHeld => ?_)
    clear hK K
    try simp only [List.getElem_toArray, List.getElem_cons_zero, List.getElem_cons_succ, Act.put, List.setIfInBounds_toArray, List.set_cons_zero, List.set_cons_succ]
    refine wpAnyH_ready (rs := [7]) (by kernel_rfl) (by simp) (AllReadyH.cons rfl (fun K hK => ?_) AllReadyH.nil)
    go_simp
    go_at_call 101
    refine (HAd.out _).mono ?_
    rintro e V7 ⟨rfl, hb7⟩
    refine hK.out _ _ (hHeld.keep hb7) (fun hHeld => ?_)
    clear hK K
    try simp only [List.getElem_toArray, List.getElem_cons_zero, List.getElem_cons_succ, Act.put, List.setIfInBounds_toArray, List.set_cons_zero, List.set_cons_succ]
    refine wpAnyH_take (i := 8) (v := .bool false) rfl (by kernel_rfl) (by kernel_rfl) (by kernel_rfl) (fun _ _ _ h => h) (Or.inl ⟨by rfl, ?y28⟩) (by assumption) ?r28
    case y28 =>
      intro w1 hSw
      go_simp
      try with_reducible rfl
    try simp only [List.getElem_toArray, List.getElem_cons_zero, List.getElem_cons_succ, Act.put, List.setIfInBounds_toArray, List.set_cons_zero, List.set_cons_succ]
    refine wpAnyH_done (by kernel_rfl) ?_ _
    refine NoPanic.normal ?_
    have HT := Lib.hid hHeld
    clear hHeld t4
    obtain ⟨_, r1, r2, r3, r4⟩ := HT.out.one
    obtain ⟨_, s1, s2, s3, s4⟩ := HT.out.two
    go_wp2_with (first | (go_at_call 69; (with_reducible refine (HK.out _ g' HT.out.two).mono ?_); rintro e V ⟨rfl, hb⟩; replace HT := Lib.hid (HT.out.keep hb); clear r1 r2 r3 r4 s1 s2 s3 s4; obtain ⟨_, r1, r2, r3, r4⟩ := HT.out.one; obtain ⟨_, s1, s2, s3, s4⟩ := HT.out.two; clear hb) | (go_at_call 113; (with_reducible refine (HL.out _).mono ?_); rintro e V ⟨rfl, hb⟩; replace HT := Lib.hid (HT.out.keep hb); clear r1 r2 r3 r4 s1 s2 s3 s4; obtain ⟨_, r1, r2, r3, r4⟩ := HT.out.one; obtain ⟨_, s1, s2, s3, s4⟩ := HT.out.two; clear hb) | (go_at_call 114; (with_reducible refine (HP.out _).mono ?_); rintro e V ⟨rfl, hb⟩; replace HT := Lib.hid (HT.out.keep hb); clear r1 r2 r3 r4 s1 s2 s3 s4; obtain ⟨_, r1, r2, r3, r4⟩ := HT.out.one; obtain ⟨_, s1, s2, s3, s4⟩ := HT.out.two; clear hb) | (go_at_call 114; (with_reducible refine (HPd.out _).mono ?_); rintro e V ⟨rfl, hb⟩; replace HT := Lib.hid (HT.out.keep hb); clear r1 r2 r3 r4 s1 s2 s3 s4; obtain ⟨_, r1, r2, r3, r4⟩ := HT.out.one; obtain ⟨_, s1, s2, s3, s4⟩ := HT.out.two; clear hb) | (go_at_call 99; (with_reducible refine (HWd.out _).mono ?_); rintro e V ⟨rfl, hb⟩; replace HT := Lib.hid (HT.out.keep hb); clear r1 r2 r3 r4 s1 s2 s3 s4; obtain ⟨_, r1, r2, r3, r4⟩ := HT.out.one; obtain ⟨_, s1, s2, s3, s4⟩ := HT.out.two; clear hb) | (go_at_call 100; (with_reducible refine (HHd.out _).mono ?_); rintro e V ⟨rfl, hb⟩; replace HT := Lib.hid (HT.out.keep hb); clear r1 r2 r3 r4 s1 s2 s3 s4; obtain ⟨_, r1, r2, r3, r4⟩ := HT.out.one; obtain ⟨_, s1, s2, s3, s4⟩ := HT.out.two; clear hb) | (go_at_call 72; (with_reducible refine (HS.out _).mono ?_); rintro e V ⟨rfl, hb⟩; replace HT := Lib.hid (HT.out.keep hb); clear r1 r2 r3 r4 s1 s2 s3 s4; obtain ⟨_, r1, r2, r3, r4⟩ := HT.out.one; obtain ⟨_, s1, s2, s3, s4⟩ := HT.out.two; clear hb))
    exact bodyPost_ret (v := .tuple #[.float .f64 X, .float .f64 m, .float .f64 0, .float .f64 n2, .float .f64 0]) (by simp [results, Try.results97, go_sem]) rfl ⟨rfl, HT.out.below⟩
set_option linter.unusedSimpArgs false in
set_option maxRecDepth 100000 in
set_option maxHeartbeats 8000000 in
theorem fit_P3 {g a b c d g' a' b' c' d' x y X Y r s : Nat} (up : Bool) (w : World) (hg : RectAt w g a b c d) (hg' : RectAt w g' a' b' c' d') (hz : Sizes a b c d a' b' c' d' x y X Y r s) (hu : Scales up a b c d a' b' c' d')
    (t1 : gt r w1 = false) (t2 : lt r w1 = true) (t3 : lt s w1 = false) (i : Nat) (hi : floatBits .quo .f64 w1 r = some i) (t4 : gt i s = true) (m n1 n2 : Nat) (hm : floatBits .mul .f64 r X = some m) (hn1 : floatBits .sub .f64 Y m = some n1) (hn2 : floatBits .quo .f64 n1 w2 = some n2) :
    Calls Try.prog 97 #[.pointer (some ⟨g, 0, none⟩), .pointer (some ⟨g', 0, none⟩), .bool true, .bool up] w fun e w' => e = .returned (.tuple #[.float .f64 m, .float .f64 X, .float .f64 0, .float .f64 n2, .float .f64 4636033603912859648]) ∧ Below w.heap.size w w' := by
  have HT := Lib.hid (⟨Below.refl _ _, hg, hg'⟩ : TwoR w g a b c d g' a' b' c' d' w)
  obtain ⟨_, r1, r2, r3, r4⟩ := HT.out.one
  obtain ⟨_, s1, s2, s3, s4⟩ := HT.out.two
  have HL := Lib.hid (fun W => land_any (r := r) (v := false) W hz.hx hz.hy hz.hr t1)
  have HP := Lib.hid (fun W => port_any (r := r) (v := true) W hz.hx hz.hy hz.hr t2)
  have HPd := Lib.hid (fun W => port_any (r := s) (v := false) W hz.hX hz.hY hz.hs t3)
  have HA := Lib.hid (fun W => aspect_any (r := r) W hz.hx hz.hy hz.hr)
  have HAd := Lib.hid (fun W => aspect_any (r := s) W hz.hX hz.hY hz.hs)
  have HWd := Lib.hid (fun W => width_any (b := b') (d := d') W hz.hX)
  have HHd := Lib.hid (fun W => height_any (a := a') (c := c') W hz.hY)
  have HS := Lib.hid (fun W => swidth_any W hz.hx hz.hy hz.hr hm)
  have o1 := run_bin (P := Try.prog) .sub hn1
  have o2 := run_bin (P := Try.prog) .quo hn2
  have o3 := run_bin (P := Try.prog) .quo hi
  have HU := Lib.hid hu
  clear hg hg' hz hm hn1 hn2 hu t1 t2 t3 hi
  rcases HU.out with rfl | ⟨rfl, hk0⟩
  · clear HU
    go_enter Try.func97, Try.ntmps97
    go_wp2_with (first | (go_at_call 113; (with_reducible refine (HL.out _).mono ?_); rintro e V ⟨rfl, hb⟩; replace HT := Lib.hid (HT.out.keep hb); clear r1 r2 r3 r4 s1 s2 s3 s4; obtain ⟨_, r1, r2, r3, r4⟩ := HT.out.one; obtain ⟨_, s1, s2, s3, s4⟩ := HT.out.two; clear hb) | (go_at_call 114; (with_reducible refine (HP.out _).mono ?_); rintro e V ⟨rfl, hb⟩; replace HT := Lib.hid (HT.out.keep hb); clear r1 r2 r3 r4 s1 s2 s3 s4; obtain ⟨_, r1, r2, r3, r4⟩ := HT.out.one; obtain ⟨_, s1, s2, s3, s4⟩ := HT.out.two; clear hb) | (go_at_call 114; (with_reducible refine (HPd.out _).mono ?_); rintro e V ⟨rfl, hb⟩; replace HT := Lib.hid (HT.out.keep hb); clear r1 r2 r3 r4 s1 s2 s3 s4; obtain ⟨_, r1, r2, r3, r4⟩ := HT.out.one; obtain ⟨_, s1, s2, s3, s4⟩ := HT.out.two; clear hb) | (go_at_call 99; (with_reducible refine (HWd.out _).mono ?_); rintro e V ⟨rfl, hb⟩; replace HT := Lib.hid (HT.out.keep hb); clear r1 r2 r3 r4 s1 s2 s3 s4; obtain ⟨_, r1, r2, r3, r4⟩ := HT.out.one; obtain ⟨_, s1, s2, s3, s4⟩ := HT.out.two; clear hb) | (go_at_call 100; (with_reducible refine (HHd.out _).mono ?_); rintro e V ⟨rfl, hb⟩; replace HT := Lib.hid (HT.out.keep hb); clear r1 r2 r3 r4 s1 s2 s3 s4; obtain ⟨_, r1, r2, r3, r4⟩ := HT.out.one; obtain ⟨_, s1, s2, s3, s4⟩ := HT.out.two; clear hb) | (go_at_call 73; (with_reducible refine (HS.out _).mono ?_); rintro e V ⟨rfl, hb⟩; replace HT := Lib.hid (HT.out.keep hb); clear r1 r2 r3 r4 s1 s2 s3 s4; obtain ⟨_, r1, r2, r3, r4⟩ := HT.out.one; obtain ⟨_, s1, s2, s3, s4⟩ := HT.out.two; clear hb))
    refine wp_abs21 (TwoR w g a b c d g' a' b' c' d') HT.out ?_
    clear HT r1 r2 r3 r4 s1 s2 s3 s4
    intro W HT
    refine wp_region_noPanic ?_
    refine wp_region_held_drew (S := TwoR w g a b c d g' a' b' c' d') (by kernel_rfl) ?_ (fun hHeld => ?_)
    · exact HT.keep (Below.refl _ _).drew
    refine wpAnyH_take (i := 0) (v := .pointer (some ⟨g, 0, none⟩)) rfl (by kernel_rfl) (by kernel_rfl) (by kernel_rfl) (fun _ _ _ h => h) (Or.inl ⟨by rfl, ?y29⟩) (by assumption) ?r29
    case y29 =>
      intro w1 hSw
      go_simp
      try with_reducible rfl
    try simp only [List.getElem_toArray, List.getElem_cons_zero, List.getElem_cons_succ, Act.put, List.setIfInBounds_toArray, List.set_cons_zero, List.set_cons_succ]
    refine wpAnyH_take (i := 1) (v := .pointer (some ⟨g, 0, none⟩)) rfl (by kernel_rfl) (by kernel_rfl) (by kernel_rfl) (fun _ _ _ h => h) (Or.inl ⟨by rfl, ?y30⟩) (by assumption) ?r30
    case y30 =>
      intro w1 hSw
      go_simp
      try with_reducible rfl
    try simp only [List.getElem_toArray, List.getElem_cons_zero, List.getElem_cons_succ, Act.put, List.setIfInBounds_toArray, List.set_cons_zero, List.set_cons_succ]
    refine wpAnyH_take (i := 2) (v := .agg #[.float .f64 a, .float .f64 b, .float .f64 c, .float .f64 d]) rfl (by kernel_rfl) (by kernel_rfl) (by kernel_rfl) (fun _ _ _ h => h) (Or.inl ⟨by rfl, ?y31⟩) (by assumption) ?r31
    case y31 =>
      intro w1 hSw
      obtain ⟨_, k1, k2, k3, k4⟩ := hSw.one
      go_simp
      try with_reducible rfl
    try simp only [List.getElem_toArray, List.getElem_cons_zero, List.getElem_cons_succ, Act.put, List.setIfInBounds_toArray, List.set_cons_zero, List.set_cons_succ]
    refine wpAnyH_take (i := 5) (v := .pointer (some ⟨g', 0, none⟩)) rfl (by kernel_rfl) (by kernel_rfl) (by kernel_rfl) (fun _ _ _ h => h) (Or.inl ⟨by rfl, ?y32⟩) (by assumption) ?r32
    case y32 =>
      intro w1 hSw
      go_simp
      try with_reducible rfl
    try simp only [List.getElem_toArray, List.getElem_cons_zero, List.getElem_cons_succ, Act.put, List.setIfInBounds_toArray, List.set_cons_zero, List.set_cons_succ]
    refine wpAnyH_take (i := 6) (v := .pointer (some ⟨g', 0, none⟩)) rfl (by kernel_rfl) (by kernel_rfl) (by kernel_rfl) (fun _ _ _ h => h) (Or.inl ⟨by rfl, ?y33⟩) (by assumption) ?r33
    case y33 =>
      intro w1 hSw
      go_simp
      try with_reducible rfl
    try simp only [List.getElem_toArray, List.getElem_cons_zero, List.getElem_cons_succ, Act.put, List.setIfInBounds_toArray, List.set_cons_zero, List.set_cons_succ]
    refine wpAnyH_take (i := 7) (v := .agg #[.float .f64 a', .float .f64 b', .float .f64 c', .float .f64 d']) rfl (by kernel_rfl) (by kernel_rfl) (by kernel_rfl) (fun _ _ _ h => h) (Or.inl ⟨by rfl, ?y34⟩) (by assumption) ?r34
    case y34 =>
      intro w1 hSw
      obtain ⟨_, k1, k2, k3, k4⟩ := hSw.two
      go_simp
      try with_reducible rfl
    try simp only [List.getElem_toArray, List.getElem_cons_zero, List.getElem_cons_succ, Act.put, List.setIfInBounds_toArray, List.set_cons_zero, List.set_cons_succ]
    refine wpAnyH_ready (rs := [3]) (by kernel_rfl) (by simp) (AllReadyH.cons rfl (fun K hK => ?_) AllReadyH.nil)
    go_simp
    go_at_call 101
    refine (HA.out _).mono ?_
    rintro e V3 ⟨rfl, hb3⟩
    refine hK.out _ _ (hHeld.keep hb3) (fun hHeld => ?_)
    clear hK K
    try simp only [List.getElem_toArray, List.getElem_cons_zero, List.getElem_cons_succ, Act.put, List.setIfInBounds_toArray, List.set_cons_zero, List.set_cons_succ]
    refine wpAnyH_take (i := 4) (v := .float .f64 i) rfl (by kernel_rfl) (by kernel_rfl) (by kernel_rfl) (fun _ _ _ h => h) (Or.inl ⟨by rfl, ?y35⟩) (by assumption) ?r35
    case y35 =>
      intro w1 hSw
      go_simp
      try with_reducible rfl
    try simp only [List.getElem_toArray, List.getElem_cons_zero, List.getElem_cons_succ, Act.put, List.setIfInBounds_toArray, List.set_cons_zero, List.set_cons_succ]
    refine wpAnyH_ready (rs := [8]) (by kernel_rfl) (by simp) (AllReadyH.cons rfl (fun K hK => ?_) AllReadyH.nil)
    go_simp
    go_at_call 101
    refine (HAd.out _).mono ?_
    rintro e V8 ⟨rfl, hb8⟩
    refine hK.out _ _ (hHeld.keep hb8) (fun hHeld => ?_)
    clear hK K
    try simp only [List.getElem_toArray, List.getElem_cons_zero, List.getElem_cons_succ, Act.put, List.setIfInBounds_toArray, List.set_cons_zero, List.set_cons_succ]
    refine wpAnyH_take (i := 9) (v := .bool true) rfl (by kernel_rfl) (by kernel_rfl) (by kernel_rfl) (fun _ _ _ h => h) (Or.inl ⟨by rfl, ?y36⟩) (by assumption) ?r36
    case y36 =>
      intro w1 hSw
      go_simp
      try with_reducible rfl
    try simp only [List.getElem_toArray, List.getElem_cons_zero, List.getElem_cons_succ, Act.put, List.setIfInBounds_toArray, List.set_cons_zero, List.set_cons_succ]
    refine wpAnyH_done (by kernel_rfl) ?_ _
    refine NoPanic.normal ?_
    have HT := Lib.hid hHeld
    clear hHeld t4
    obtain ⟨_, r1, r2, r3, r4⟩ := HT.out.one
    obtain ⟨_, s1, s2, s3, s4⟩ := HT.out.two
    go_wp2_with (first | (go_at_call 113; (with_reducible refine (HL.out _).mono ?_); rintro e V ⟨rfl, hb⟩; replace HT := Lib.hid (HT.out.keep hb); clear r1 r2 r3 r4 s1 s2 s3 s4; obtain ⟨_, r1, r2, r3, r4⟩ := HT.out.one; obtain ⟨_, s1, s2, s3, s4⟩ := HT.out.two; clear hb) | (go_at_call 114; (with_reducible refine (HP.out _).mono ?_); rintro e V ⟨rfl, hb⟩; replace HT := Lib.hid (HT.out.keep hb); clear r1 r2 r3 r4 s1 s2 s3 s4; obtain ⟨_, r1, r2, r3, r4⟩ := HT.out.one; obtain ⟨_, s1, s2, s3, s4⟩ := HT.out.two; clear hb) | (go_at_call 114; (with_reducible refine (HPd.out _).mono ?_); rintro e V ⟨rfl, hb⟩; replace HT := Lib.hid (HT.out.keep hb); clear r1 r2 r3 r4 s1 s2 s3 s4; obtain ⟨_, r1, r2, r3, r4⟩ := HT.out.one; obtain ⟨_, s1, s2, s3, s4⟩ := HT.out.two; clear hb) | (go_at_call 99; (with_reducible refine (HWd.out _).mono ?_); rintro e V ⟨rfl, hb⟩; replace HT := Lib.hid (HT.out.keep hb); clear r1 r2 r3 r4 s1 s2 s3 s4; obtain ⟨_, r1, r2, r3, r4⟩ := HT.out.one; obtain ⟨_, s1, s2, s3, s4⟩ := HT.out.two; clear hb) | (go_at_call 100; (with_reducible refine (HHd.out _).mono ?_); rintro e V ⟨rfl, hb⟩; replace HT := Lib.hid (HT.out.keep hb); clear r1 r2 r3 r4 s1 s2 s3 s4; obtain ⟨_, r1, r2, r3, r4⟩ := HT.out.one; obtain ⟨_, s1, s2, s3, s4⟩ := HT.out.two; clear hb) | (go_at_call 73; (with_reducible refine (HS.out _).mono ?_); rintro e V ⟨rfl, hb⟩; replace HT := Lib.hid (HT.out.keep hb); clear r1 r2 r3 r4 s1 s2 s3 s4; obtain ⟨_, r1, r2, r3, r4⟩ := HT.out.one; obtain ⟨_, s1, s2, s3, s4⟩ := HT.out.two; clear hb))
    exact bodyPost_ret (v := .tuple #[.float .f64 m, .float .f64 X, .float .f64 0, .float .f64 n2, .float .f64 4636033603912859648]) (by simp [results, Try.results97, go_sem]) rfl ⟨rfl, HT.out.below⟩
  · have HK := Lib.hid hk0
    clear HU hk0
    go_enter Try.func97, Try.ntmps97
    go_wp2_with (first | (go_at_call 69; (with_reducible refine (HK.out _ g' HT.out.two).mono ?_); rintro e V ⟨rfl, hb⟩; replace HT := Lib.hid (HT.out.keep hb); clear r1 r2 r3 r4 s1 s2 s3 s4; obtain ⟨_, r1, r2, r3, r4⟩ := HT.out.one; obtain ⟨_, s1, s2, s3, s4⟩ := HT.out.two; clear hb) | (go_at_call 113; (with_reducible refine (HL.out _).mono ?_); rintro e V ⟨rfl, hb⟩; replace HT := Lib.hid (HT.out.keep hb); clear r1 r2 r3 r4 s1 s2 s3 s4; obtain ⟨_, r1, r2, r3, r4⟩ := HT.out.one; obtain ⟨_, s1, s2, s3, s4⟩ := HT.out.two; clear hb) | (go_at_call 114; (with_reducible refine (HP.out _).mono ?_); rintro e V ⟨rfl, hb⟩; replace HT := Lib.hid (HT.out.keep hb); clear r1 r2 r3 r4 s1 s2 s3 s4; obtain ⟨_, r1, r2, r3, r4⟩ := HT.out.one; obtain ⟨_, s1, s2, s3, s4⟩ := HT.out.two; clear hb) | (go_at_call 114; (with_reducible refine (HPd.out _).mono ?_); rintro e V ⟨rfl, hb⟩; replace HT := Lib.hid (HT.out.keep hb); clear r1 r2 r3 r4 s1 s2 s3 s4; obtain ⟨_, r1, r2, r3, r4⟩ := HT.out.one; obtain ⟨_, s1, s2, s3, s4⟩ := HT.out.two; clear hb) | (go_at_call 99; (with_reducible refine (HWd.out _).mono ?_); rintro e V ⟨rfl, hb⟩; replace HT := Lib.hid (HT.out.keep hb); clear r1 r2 r3 r4 s1 s2 s3 s4; obtain ⟨_, r1, r2, r3, r4⟩ := HT.out.one; obtain ⟨_, s1, s2, s3, s4⟩ := HT.out.two; clear hb) | (go_at_call 100; (with_reducible refine (HHd.out _).mono ?_); rintro e V ⟨rfl, hb⟩; replace HT := Lib.hid (HT.out.keep hb); clear r1 r2 r3 r4 s1 s2 s3 s4; obtain ⟨_, r1, r2, r3, r4⟩ := HT.out.one; obtain ⟨_, s1, s2, s3, s4⟩ := HT.out.two; clear hb) | (go_at_call 73; (with_reducible refine (HS.out _).mono ?_); rintro e V ⟨rfl, hb⟩; replace HT := Lib.hid (HT.out.keep hb); clear r1 r2 r3 r4 s1 s2 s3 s4; obtain ⟨_, r1, r2, r3, r4⟩ := HT.out.one; obtain ⟨_, s1, s2, s3, s4⟩ := HT.out.two; clear hb))
    refine wp_abs21 (TwoR w g a b c d g' a' b' c' d') HT.out ?_
    clear HT r1 r2 r3 r4 s1 s2 s3 s4
    intro W HT
    refine wp_region_noPanic ?_
    refine wp_region_held_drew (S := TwoR w g a b c d g' a' b' c' d') (by kernel_rfl) ?_ (fun hHeld => ?_)
    · exact HT.keep (Below.refl _ _).drew
    refine wpAnyH_take (i := 0) (v := .pointer (some ⟨g, 0, none⟩)) rfl (by kernel_rfl) (by kernel_rfl) (by kernel_rfl) (fun _ _ _ h => h) (Or.inl ⟨by rfl, ?y37⟩) (by assumption) ?r37
    case y37 =>
      intro w1 hSw
      go_simp
      try with_reducible rfl
    try simp only [List.getElem_toArray, List.getElem_cons_zero, List.getElem_cons_succ, Act.put, List.setIfInBounds_toArray, List.set_cons_zero, List.set_cons_succ]
    refine wpAnyH_take (i := 1) (v := .pointer (some ⟨g, 0, none⟩)) rfl (by kernel_rfl) (by kernel_rfl) (by kernel_rfl) (fun _ _ _ h => h) (Or.inl ⟨by rfl, ?y38⟩) (by assumption) ?r38
    case y38 =>
      intro w1 hSw
      go_simp
      try with_reducible rfl
    try simp only [List.getElem_toArray, List.getElem_cons_zero, List.getElem_cons_succ, Act.put, List.setIfInBounds_toArray, List.set_cons_zero, List.set_cons_succ]
    refine wpAnyH_take (i := 2) (v := .agg #[.float .f64 a, .float .f64 b, .float .f64 c, .float .f64 d]) rfl (by kernel_rfl) (by kernel_rfl) (by kernel_rfl) (fun _ _ _ h => h) (Or.inl ⟨by rfl, ?y39⟩) (by assumption) ?r39
    case y39 =>
      intro w1 hSw
      obtain ⟨_, k1, k2, k3, k4⟩ := hSw.one
      go_simp
      try with_reducible rfl
    try simp only [List.getElem_toArray, List.getElem_cons_zero, List.getElem_cons_succ, Act.put, List.setIfInBounds_toArray, List.set_cons_zero, List.set_cons_succ]
    refine wpAnyH_take (i := 5) (v := .pointer (some ⟨g', 0, none⟩)) rfl (by kernel_rfl) (by kernel_rfl) (by kernel_rfl) (fun _ _ _ h => h) (Or.inl ⟨by rfl, ?y40⟩) (by assumption) ?r40
    case y40 =>
      intro w1 hSw
      go_simp
      try with_reducible rfl
    try simp only [List.getElem_toArray, List.getElem_cons_zero, List.getElem_cons_succ, Act.put, List.setIfInBounds_toArray, List.set_cons_zero, List.set_cons_succ]
    refine wpAnyH_take (i := 6) (v := .pointer (some ⟨g', 0, none⟩)) rfl (by kernel_rfl) (by kernel_rfl) (by kernel_rfl) (fun _ _ _ h => h) (Or.inl ⟨by rfl, ?y41⟩) (by assumption) ?r41
    case y41 =>
      intro w1 hSw
      go_simp
      try with_reducible rfl
    try simp only [List.getElem_toArray, List.getElem_cons_zero, List.getElem_cons_succ, Act.put, List.setIfInBounds_toArray, List.set_cons_zero, List.set_cons_succ]
    refine wpAnyH_take (i := 7) (v := .agg #[.float .f64 a', .float .f64 b', .float .f64 c', .float .f64 d']) rfl (by kernel_rfl) (by kernel_rfl) (by kernel_rfl) (fun _ _ _ h => h) (Or.inl ⟨by rfl, ?y42⟩) (by assumption) ?r42
    case y42 =>
      intro w1 hSw
      obtain ⟨_, k1, k2, k3, k4⟩ := hSw.two
      go_simp
      try with_reducible rfl
    try simp only [List.getElem_toArray, List.getElem_cons_zero, List.getElem_cons_succ, Act.put, List.setIfInBounds_toArray, List.set_cons_zero, List.set_cons_succ]
    refine wpAnyH_ready (rs := [3]) (by kernel_rfl) (by simp) (AllReadyH.cons rfl (fun K hK => ?_) AllReadyH.nil)
    go_simp
    go_at_call 101
    refine (HA.out _).mono ?_
    rintro e V3 ⟨rfl, hb3⟩
    refine hK.out _ _ (hHeld.keep hb3) (fun hHeld => ?_)
    clear hK K
    try simp only [List.getElem_toArray, List.getElem_cons_zero, List.getElem_cons_succ, Act.put, List.setIfInBounds_toArray, List.set_cons_zero, List.set_cons_succ]
    refine wpAnyH_take (i := 4) (v := .float .f64 i) rfl (by kernel_rfl) (by kernel_rfl) (by kernel_rfl) (fun _ _ _ h => h) (Or.inl ⟨by rfl, ?y43⟩) (by assumption) ?r43
    case y43 =>
      intro w1 hSw
      go_simp
      try with_reducible rfl
    try simp only [List.getElem_toArray, List.getElem_cons_zero, List.getElem_cons_succ, Act.put, List.setIfInBounds_toArray, List.set_cons_zero, List.set_cons_succ]
    refine wpAnyH_ready (rs := [8]) (by kernel_rfl) (by simp) (AllReadyH.cons rfl (fun K hK => ?_) AllReadyH.nil)
    go_simp
    go_at_call 101
    refine (HAd.out _).mono ?_
    rintro e V8 ⟨rfl, hb8⟩
    refine hK.out _ _ (hHeld.keep hb8) (fun hHeld => ?_)
    clear hK K
    try simp only [List.getElem_toArray, List.getElem_cons_zero, List.getElem_cons_succ, Act.put, List.setIfInBounds_toArray, List.set_cons_zero, List.set_cons_succ]
    refine wpAnyH_take (i := 9) (v := .bool true) rfl (by kernel_rfl) (by kernel_rfl) (by kernel_rfl) (fun _ _ _ h => h) (Or.inl ⟨by rfl, ?y44⟩) (by assumption) ?r44
    case y44 =>
      intro w1 hSw
      go_simp
      try with_reducible rfl
    try simp only [List.getElem_toArray, List.getElem_cons_zero, List.getElem_cons_succ, Act.put, List.setIfInBounds_toArray, List.set_cons_zero, List.set_cons_succ]
    refine wpAnyH_done (by kernel_rfl) ?_ _
    refine NoPanic.normal ?_
    have HT := Lib.hid hHeld
    clear hHeld t4
    obtain ⟨_, r1, r2, r3, r4⟩ := HT.out.one
    obtain ⟨_, s1, s2, s3, s4⟩ := HT.out.two
    go_wp2_with (first | (go_at_call 69; (with_reducible refine (HK.out _ g' HT.out.two).mono ?_); rintro e V ⟨rfl, hb⟩; replace HT := Lib.hid (HT.out.keep hb); clear r1 r2 r3 r4 s1 s2 s3 s4; obtain ⟨_, r1, r2, r3, r4⟩ := HT.out.one; obtain ⟨_, s1, s2, s3, s4⟩ := HT.out.two; clear hb) | (go_at_call 113; (with_reducible refine (HL.out _).mono ?_); rintro e V ⟨rfl, hb⟩; replace HT := Lib.hid (HT.out.keep hb); clear r1 r2 r3 r4 s1 s2 s3 s4; obtain ⟨_, r1, r2, r3, r4⟩ := HT.out.one; obtain ⟨_, s1, s2, s3, s4⟩ := HT.out.two; clear hb) | (go_at_call 114; (with_reducible refine (HP.out _).mono ?_); rintro e V ⟨rfl, hb⟩; replace HT := Lib.hid (HT.out.keep hb); clear r1 r2 r3 r4 s1 s2 s3 s4; obtain ⟨_, r1, r2, r3, r4⟩ := HT.out.one; obtain ⟨_, s1, s2, s3, s4⟩ := HT.out.two; clear hb) | (go_at_call 114; (with_reducible refine (HPd.out _).mono ?_); rintro e V ⟨rfl, hb⟩; replace HT := Lib.hid (HT.out.keep hb); clear r1 r2 r3 r4 s1 s2 s3 s4; obtain ⟨_, r1, r2, r3, r4⟩ := HT.out.one; obtain ⟨_, s1, s2, s3, s4⟩ := HT.out.two; clear hb) | (go_at_call 99; (with_reducible refine (HWd.out _).mono ?_); rintro e V ⟨rfl, hb⟩; replace HT := Lib.hid (HT.out.keep hb); clear r1 r2 r3 r4 s1 s2 s3 s4; obtain ⟨_, r1, r2, r3, r4⟩ := HT.out.one; obtain ⟨_, s1, s2, s3, s4⟩ := HT.out.two; clear hb) | (go_at_call 100; (with_reducible refine (HHd.out _).mono ?_); rintro e V ⟨rfl, hb⟩; replace HT := Lib.hid (HT.out.keep hb); clear r1 r2 r3 r4 s1 s2 s3 s4; obtain ⟨_, r1, r2, r3, r4⟩ := HT.out.one; obtain ⟨_, s1, s2, s3, s4⟩ := HT.out.two; clear hb) | (go_at_call 73; (with_reducible refine (HS.out _).mono ?_); rintro e V ⟨rfl, hb⟩; replace HT := Lib.hid (HT.out.keep hb); clear r1 r2 r3 r4 s1 s2 s3 s4; obtain ⟨_, r1, r2, r3, r4⟩ := HT.out.one; obtain ⟨_, s1, s2, s3, s4⟩ := HT.out.two; clear hb))
    exact bodyPost_ret (v := .tuple #[.float .f64 m, .float .f64 X, .float .f64 0, .float .f64 n2, .float .f64 4636033603912859648]) (by simp [results, Try.results97, go_sem]) rfl ⟨rfl, HT.out.below⟩
set_option linter.unusedSimpArgs false in
set_option maxRecDepth 100000 in
set_option maxHeartbeats 8000000 in
theorem fit_P4 {g a b c d g' a' b' c' d' x y X Y r s : Nat} (up : Bool) (w : World) (hg : RectAt w g a b c d) (hg' : RectAt w g' a' b' c' d') (hz : Sizes a b c d a' b' c' d' x y X Y r s) (hu : Scales up a b c d a' b' c' d')
    (t1 : gt r w1 = false) (t2 : lt r w1 = true) (t3 : lt s w1 = false) (i : Nat) (hi : floatBits .quo .f64 w1 r = some i) (t4 : gt i s = false) (m n1 n2 : Nat) (hm : floatBits .quo .f64 Y r = some m) (hn1 : floatBits .sub .f64 X m = some n1) (hn2 : floatBits .quo .f64 n1 w2 = some n2) :
    Calls Try.prog 97 #[.pointer (some ⟨g, 0, none⟩), .pointer (some ⟨g', 0, none⟩), .bool true, .bool up] w fun e w' => e = .returned (.tuple #[.float .f64 Y, .float .f64 m, .float .f64 n2, .float .f64 0, .float .f64 4636033603912859648]) ∧ Below w.heap.size w w' := by
  have HT := Lib.hid (⟨Below.refl _ _, hg, hg'⟩ : TwoR w g a b c d g' a' b' c' d' w)
  obtain ⟨_, r1, r2, r3, r4⟩ := HT.out.one
  obtain ⟨_, s1, s2, s3, s4⟩ := HT.out.two
  have HL := Lib.hid (fun W => land_any (r := r) (v := false) W hz.hx hz.hy hz.hr t1)
  have HP := Lib.hid (fun W => port_any (r := r) (v := true) W hz.hx hz.hy hz.hr t2)
  have HPd := Lib.hid (fun W => port_any (r := s) (v := false) W hz.hX hz.hY hz.hs t3)
  have HA := Lib.hid (fun W => aspect_any (r := r) W hz.hx hz.hy hz.hr)
  have HAd := Lib.hid (fun W => aspect_any (r := s) W hz.hX hz.hY hz.hs)
  have HWd := Lib.hid (fun W => width_any (b := b') (d := d') W hz.hX)
  have HHd := Lib.hid (fun W => height_any (a := a') (c := c') W hz.hY)
  have HS := Lib.hid (fun W => sheight_any W hz.hx hz.hy hz.hr hm)
  have o1 := run_bin (P := Try.prog) .sub hn1
  have o2 := run_bin (P := Try.prog) .quo hn2
  have o3 := run_bin (P := Try.prog) .quo hi
  have HU := Lib.hid hu
  clear hg hg' hz hm hn1 hn2 hu t1 t2 t3 hi
  rcases HU.out with rfl | ⟨rfl, hk0⟩
  · clear HU
    go_enter Try.func97, Try.ntmps97
    go_wp2_with (first | (go_at_call 113; (with_reducible refine (HL.out _).mono ?_); rintro e V ⟨rfl, hb⟩; replace HT := Lib.hid (HT.out.keep hb); clear r1 r2 r3 r4 s1 s2 s3 s4; obtain ⟨_, r1, r2, r3, r4⟩ := HT.out.one; obtain ⟨_, s1, s2, s3, s4⟩ := HT.out.two; clear hb) | (go_at_call 114; (with_reducible refine (HP.out _).mono ?_); rintro e V ⟨rfl, hb⟩; replace HT := Lib.hid (HT.out.keep hb); clear r1 r2 r3 r4 s1 s2 s3 s4; obtain ⟨_, r1, r2, r3, r4⟩ := HT.out.one; obtain ⟨_, s1, s2, s3, s4⟩ := HT.out.two; clear hb) | (go_at_call 114; (with_reducible refine (HPd.out _).mono ?_); rintro e V ⟨rfl, hb⟩; replace HT := Lib.hid (HT.out.keep hb); clear r1 r2 r3 r4 s1 s2 s3 s4; obtain ⟨_, r1, r2, r3, r4⟩ := HT.out.one; obtain ⟨_, s1, s2, s3, s4⟩ := HT.out.two; clear hb) | (go_at_call 99; (with_reducible refine (HWd.out _).mono ?_); rintro e V ⟨rfl, hb⟩; replace HT := Lib.hid (HT.out.keep hb); clear r1 r2 r3 r4 s1 s2 s3 s4; obtain ⟨_, r1, r2, r3, r4⟩ := HT.out.one; obtain ⟨_, s1, s2, s3, s4⟩ := HT.out.two; clear hb) | (go_at_call 100; (with_reducible refine (HHd.out _).mono ?_); rintro e V ⟨rfl, hb⟩; replace HT := Lib.hid (HT.out.keep hb); clear r1 r2 r3 r4 s1 s2 s3 s4; obtain ⟨_, r1, r2, r3, r4⟩ := HT.out.one; obtain ⟨_, s1, s2, s3, s4⟩ := HT.out.two; clear hb) | (go_at_call 72; (with_reducible refine (HS.out _).mono ?_); rintro e V ⟨rfl, hb⟩; replace HT := Lib.hid (HT.out.keep hb); clear r1 r2 r3 r4 s1 s2 s3 s4; obtain ⟨_, r1, r2, r3, r4⟩ := HT.out.one; obtain ⟨_, s1, s2, s3, s4⟩ := HT.out.two; clear hb))
    refine wp_abs21 (TwoR w g a b c d g' a' b' c' d') HT.out ?_
    clear HT r1 r2 r3 r4 s1 s2 s3 s4
    intro W HT
    refine wp_region_noPanic ?_
    refine wp_region_held_drew (S := TwoR w g a b c d g' a' b' c' d') (by kernel_rfl) ?_ (fun hHeld => ?_)
    · exact HT.keep (Below.refl _ _).drew
    refine wpAnyH_take (i := 0) (v := .pointer (some ⟨g, 0, none⟩)) rfl (by kernel_rfl) (by kernel_rfl) (by kernel_rfl) (fun _ _ _ h => h) (Or.inl ⟨by rfl, ?y45⟩) (by assumption) ?r45
    case y45 =>
      intro w1 hSw
      go_simp
      try with_reducible rfl
    try simp only [List.getElem_toArray, List.getElem_cons_zero, List.getElem_cons_succ, Act.put, List.setIfInBounds_toArray, List.set_cons_zero, List.set_cons_succ]
    refine wpAnyH_take (i := 1) (v := .pointer (some ⟨g, 0, none⟩)) rfl (by kernel_rfl) (by kernel_rfl) (by kernel_rfl) (fun _ _ _ h => h) (Or.inl ⟨by rfl, ?y46⟩) (by assumption) ?r46
    case y46 =>
      intro w1 hSw
      go_simp
      try with_reducible rfl
    try simp only [List.getElem_toArray, List.getElem_cons_zero, List.getElem_cons_succ, Act.put, List.setIfInBounds_toArray, List.set_cons_zero, List.set_cons_succ]
    refine wpAnyH_take (i := 2) (v := .agg #[.float .f64 a, .float .f64 b, .float .f64 c, .float .f64 d]) rfl (by kernel_rfl) (by kernel_rfl) (by kernel_rfl) (fun _ _ _ h => h) (Or.inl ⟨by rfl, ?y47⟩) (by assumption) ?r47
    case y47 =>
      intro w1 hSw
      obtain ⟨_, k1, k2, k3, k4⟩ := hSw.one
      go_simp
      try with_reducible rfl
    try simp only [List.getElem_toArray, List.getElem_cons_zero, List.getElem_cons_succ, Act.put, List.setIfInBounds_toArray, List.set_cons_zero, List.set_cons_succ]
    refine wpAnyH_take (i := 5) (v := .pointer (some ⟨g', 0, none⟩)) rfl (by kernel_rfl) (by kernel_rfl) (by kernel_rfl) (fun _ _ _ h => h) (Or.inl ⟨by rfl, ?y48⟩) (by assumption) ?r48
    case y48 =>
      intro w1 hSw
      go_simp
      try with_reducible rfl
    try simp only [List.getElem_toArray, List.getElem_cons_zero, List.getElem_cons_succ, Act.put, List.setIfInBounds_toArray, List.set_cons_zero, List.set_cons_succ]
    refine wpAnyH_take (i := 6) (v := .pointer (some ⟨g', 0, none⟩)) rfl (by kernel_rfl) (by kernel_rfl) (by kernel_rfl) (fun _ _ _ h => h) (Or.inl ⟨by rfl, ?y49⟩) (by assumption) ?r49
    case y49 =>
      intro w1 hSw
      go_simp
      try with_reducible rfl
    try simp only [List.getElem_toArray, List.getElem_cons_zero, List.getElem_cons_succ, Act.put, List.setIfInBounds_toArray, List.set_cons_zero, List.set_cons_succ]
    refine wpAnyH_take (i := 7) (v := .agg #[.float .f64 a', .float .f64 b', .float .f64 c', .float .f64 d']) rfl (by kernel_rfl) (by kernel_rfl) (by kernel_rfl) (fun _ _ _ h => h) (Or.inl ⟨by rfl, ?y50⟩) (by assumption) ?r50
    case y50 =>
      intro w1 hSw
      obtain ⟨_, k1, k2, k3, k4⟩ := hSw.two
      go_simp
      try with_reducible rfl
    try simp only [List.getElem_toArray, List.getElem_cons_zero, List.getElem_cons_succ, Act.put, List.setIfInBounds_toArray, List.set_cons_zero, List.set_cons_succ]
    refine wpAnyH_ready (rs := [3]) (by kernel_rfl) (by simp) (AllReadyH.cons rfl (fun K hK => ?_) AllReadyH.nil)
    go_simp
    go_at_call 101
    refine (HA.out _).mono ?_
    rintro e V3 ⟨rfl, hb3⟩
    refine hK.out _ _ (hHeld.keep hb3) (fun hHeld => ?_)
    clear hK K
    try simp only [List.getElem_toArray, List.getElem_cons_zero, List.getElem_cons_succ, Act.put, List.setIfInBounds_toArray, List.set_cons_zero, List.set_cons_succ]
    refine wpAnyH_take (i := 4) (v := .float .f64 i) rfl (by kernel_rfl) (by kernel_rfl) (by kernel_rfl) (fun _ _ _ h => h) (Or.inl ⟨by rfl, ?y51⟩) (by assumption) ?r51
    case y51 =>
      intro w1 hSw
      go_simp
      try with_reducible rfl
    try simp only [List.getElem_toArray, List.getElem_cons_zero, List.getElem_cons_succ, Act.put, List.setIfInBounds_toArray, List.set_cons_zero, List.set_cons_succ]
    refine wpAnyH_ready (rs := [8]) (by kernel_rfl) (by simp) (AllReadyH.cons rfl (fun K hK => ?_) AllReadyH.nil)
    go_simp
    go_at_call 101
    refine (HAd.out _).mono ?_
    rintro e V8 ⟨rfl, hb8⟩
    refine hK.out _ _ (hHeld.keep hb8) (fun hHeld => ?_)
    clear hK K
    try simp only [List.getElem_toArray, List.getElem_cons_zero, List.getElem_cons_succ, Act.put, List.setIfInBounds_toArray, List.set_cons_zero, List.set_cons_succ]
    refine wpAnyH_take (i := 9) (v := .bool false) rfl (by kernel_rfl) (by kernel_rfl) (by kernel_rfl) (fun _ _ _ h => h) (Or.inl ⟨by rfl, ?y52⟩) (by assumption) ?r52
    case y52 =>
      intro w1 hSw
      go_simp
      try with_reducible rfl
    try simp only [List.getElem_toArray, List.getElem_cons_zero, List.getElem_cons_succ, Act.put, List.setIfInBounds_toArray, List.set_cons_zero, List.set_cons_succ]
    refine wpAnyH_done (by kernel_rfl) ?_ _
    refine NoPanic.normal ?_
    have HT := Lib.hid hHeld
    clear hHeld t4
    obtain ⟨_, r1, r2, r3, r4⟩ := HT.out.one
    obtain ⟨_, s1, s2, s3, s4⟩ := HT.out.two
    go_wp2_with (first | (go_at_call 113; (with_reducible refine (HL.out _).mono ?_); rintro e V ⟨rfl, hb⟩; replace HT := Lib.hid (HT.out.keep hb); clear r1 r2 r3 r4 s1 s2 s3 s4; obtain ⟨_, r1, r2, r3, r4⟩ := HT.out.one; obtain ⟨_, s1, s2, s3, s4⟩ := HT.out.two; clear hb) | (go_at_call 114; (with_reducible refine (HP.out _).mono ?_); rintro e V ⟨rfl, hb⟩; replace HT := Lib.hid (HT.out.keep hb); clear r1 r2 r3 r4 s1 s2 s3 s4; obtain ⟨_, r1, r2, r3, r4⟩ := HT.out.one; obtain ⟨_, s1, s2, s3, s4⟩ := HT.out.two; clear hb) | (go_at_call 114; (with_reducible refine (HPd.out _).mono ?_); rintro e V ⟨rfl, hb⟩; replace HT := Lib.hid (HT.out.keep hb); clear r1 r2 r3 r4 s1 s2 s3 s4; obtain ⟨_, r1, r2, r3, r4⟩ := HT.out.one; obtain ⟨_, s1, s2, s3, s4⟩ := HT.out.two; clear hb) | (go_at_call 99; (with_reducible refine (HWd.out _).mono ?_); rintro e V ⟨rfl, hb⟩; replace HT := Lib.hid (HT.out.keep hb); clear r1 r2 r3 r4 s1 s2 s3 s4; obtain ⟨_, r1, r2, r3, r4⟩ := HT.out.one; obtain ⟨_, s1, s2, s3, s4⟩ := HT.out.two; clear hb) | (go_at_call 100; (with_reducible refine (HHd.out _).mono ?_); rintro e V ⟨rfl, hb⟩; replace HT := Lib.hid (HT.out.keep hb); clear r1 r2 r3 r4 s1 s2 s3 s4; obtain ⟨_, r1, r2, r3, r4⟩ := HT.out.one; obtain ⟨_, s1, s2, s3, s4⟩ := HT.out.two; clear hb) | (go_at_call 72; (with_reducible refine (HS.out _).mono ?_); rintro e V ⟨rfl, hb⟩; replace HT := Lib.hid (HT.out.keep hb); clear r1 r2 r3 r4 s1 s2 s3 s4; obtain ⟨_, r1, r2, r3, r4⟩ := HT.out.one; obtain ⟨_, s1, s2, s3, s4⟩ := HT.out.two; clear hb))
    exact bodyPost_ret (v := .tuple #[.float .f64 Y, .float .f64 m, .float .f64 n2, .float .f64 0, .float .f64 4636033603912859648]) (by simp [results, Try.results97, go_sem]) rfl ⟨rfl, HT.out.below⟩
  · have HK := Lib.hid hk0
    clear HU hk0
    go_enter Try.func97, Try.ntmps97
    go_wp2_with (first | (go_at_call 69; (with_reducible refine (HK.out _ g' HT.out.two).mono ?_); rintro e V ⟨rfl, hb⟩; replace HT := Lib.hid (HT.out.keep hb); clear r1 r2 r3 r4 s1 s2 s3 s4; obtain ⟨_, r1, r2, r3, r4⟩ := HT.out.one; obtain ⟨_, s1, s2, s3, s4⟩ := HT.out.two; clear hb) | (go_at_call 113; (with_reducible refine (HL.out _).mono ?_); rintro e V ⟨rfl, hb⟩; replace HT := Lib.hid (HT.out.keep hb); clear r1 r2 r3 r4 s1 s2 s3 s4; obtain ⟨_, r1, r2, r3, r4⟩ := HT.out.one; obtain ⟨_, s1, s2, s3, s4⟩ := HT.out.two; clear hb) | (go_at_call 114; (with_reducible refine (HP.out _).mono ?_); rintro e V ⟨rfl, hb⟩; replace HT := Lib.hid (HT.out.keep hb); clear r1 r2 r3 r4 s1 s2 s3 s4; obtain ⟨_, r1, r2, r3, r4⟩ := HT.out.one; obtain ⟨_, s1, s2, s3, s4⟩ := HT.out.two; clear hb) | (go_at_call 114; (with_reducible refine (HPd.out _).mono ?_); rintro e V ⟨rfl, hb⟩; replace HT := Lib.hid (HT.out.keep hb); clear r1 r2 r3 r4 s1 s2 s3 s4; obtain ⟨_, r1, r2, r3, r4⟩ := HT.out.one; obtain ⟨_, s1, s2, s3, s4⟩ := HT.out.two; clear hb) | (go_at_call 99; (with_reducible refine (HWd.out _).mono ?_); rintro e V ⟨rfl, hb⟩; replace HT := Lib.hid (HT.out.keep hb); clear r1 r2 r3 r4 s1 s2 s3 s4; obtain ⟨_, r1, r2, r3, r4⟩ := HT.out.one; obtain ⟨_, s1, s2, s3, s4⟩ := HT.out.two; clear hb) | (go_at_call 100; (with_reducible refine (HHd.out _).mono ?_); rintro e V ⟨rfl, hb⟩; replace HT := Lib.hid (HT.out.keep hb); clear r1 r2 r3 r4 s1 s2 s3 s4; obtain ⟨_, r1, r2, r3, r4⟩ := HT.out.one; obtain ⟨_, s1, s2, s3, s4⟩ := HT.out.two; clear hb) | (go_at_call 72; (with_reducible refine (HS.out _).mono ?_); rintro e V ⟨rfl, hb⟩; replace HT := Lib.hid (HT.out.keep hb); clear r1 r2 r3 r4 s1 s2 s3 s4; obtain ⟨_, r1, r2, r3, r4⟩ := HT.out.one; obtain ⟨_, s1, s2, s3, s4⟩ := HT.out.two; clear hb))
    refine wp_abs21 (TwoR w g a b c d g' a' b' c' d') HT.out ?_
    clear HT r1 r2 r3 r4 s1 s2 s3 s4
    intro W HT
    refine wp_region_noPanic ?_
    refine wp_region_held_drew (S := TwoR w g a b c d g' a' b' c' d') (by kernel_rfl) ?_ (fun hHeld => ?_)
    · exact HT.keep (Below.refl _ _).drew
    refine wpAnyH_take (i := 0) (v := .pointer (some ⟨g, 0, none⟩)) rfl (by kernel_rfl) (by kernel_rfl) (by kernel_rfl) (fun _ _ _ h => h) (Or.inl ⟨by rfl, ?y53⟩) (by assumption) ?r53
    case y53 =>
      intro w1 hSw
      go_simp
      try with_reducible rfl
    try simp only [List.getElem_toArray, List.getElem_cons_zero, List.getElem_cons_succ, Act.put, List.setIfInBounds_toArray, List.set_cons_zero, List.set_cons_succ]
    refine wpAnyH_take (i := 1) (v := .pointer (some ⟨g, 0, none⟩)) rfl (by kernel_rfl) (by kernel_rfl) (by kernel_rfl) (fun _ _ _ h => h) (Or.inl ⟨by rfl, ?y54⟩) (by assumption) ?r54
    case y54 =>
      intro w1 hSw
      go_simp
      try with_reducible rfl
    try simp only [List.getElem_toArray, List.getElem_cons_zero, List.getElem_cons_succ, Act.put, List.setIfInBounds_toArray, List.set_cons_zero, List.set_cons_succ]
    refine wpAnyH_take (i := 2) (v := .agg #[.float .f64 a, .float .f64 b, .float .f64 c, .float .f64 d]) rfl (by kernel_rfl) (by kernel_rfl) (by kernel_rfl) (fun _ _ _ h => h) (Or.inl ⟨by rfl, ?y55⟩) (by assumption) ?r55
    case y55 =>
      intro w1 hSw
      obtain ⟨_, k1, k2, k3, k4⟩ := hSw.one
      go_simp
      try with_reducible rfl
    try simp only [List.getElem_toArray, List.getElem_cons_zero, List.getElem_cons_succ, Act.put, List.setIfInBounds_toArray, List.set_cons_zero, List.set_cons_succ]
    refine wpAnyH_take (i := 5) (v := .pointer (some ⟨g', 0, none⟩)) rfl (by kernel_rfl) (by kernel_rfl) (by kernel_rfl) (fun _ _ _ h => h) (Or.inl ⟨by rfl, ?y56⟩) (by assumption) ?r56
    case y56 =>
      intro w1 hSw
      go_simp
      try with_reducible rfl
    try simp only [List.getElem_toArray, List.getElem_cons_zero, List.getElem_cons_succ, Act.put, List.setIfInBounds_toArray, List.set_cons_zero, List.set_cons_succ]
    refine wpAnyH_take (i := 6) (v := .pointer (some ⟨g', 0, none⟩)) rfl (by kernel_rfl) (by kernel_rfl) (by kernel_rfl) (fun _ _ _ h => h) (Or.inl ⟨by rfl, ?y57⟩) (by assumption) ?r57
    case y57 =>
      intro w1 hSw
      go_simp
      try with_reducible rfl
    try simp only [List.getElem_toArray, List.getElem_cons_zero, List.getElem_cons_succ, Act.put, List.setIfInBounds_toArray, List.set_cons_zero, List.set_cons_succ]
    refine wpAnyH_take (i := 7) (v := .agg #[.float .f64 a', .float .f64 b', .float .f64 c', .float .f64 d']) rfl (by kernel_rfl) (by kernel_rfl) (by kernel_rfl) (fun _ _ _ h => h) (Or.inl ⟨by rfl, ?y58⟩) (by assumption) ?r58
    case y58 =>
      intro w1 hSw
      obtain ⟨_, k1, k2, k3, k4⟩ := hSw.two
      go_simp
      try with_reducible rfl
    try simp only [List.getElem_toArray, List.getElem_cons_zero, List.getElem_cons_succ, Act.put, List.setIfInBounds_toArray, List.set_cons_zero, List.set_cons_succ]
    refine wpAnyH_ready (rs := [3]) (by kernel_rfl) (by simp) (AllReadyH.cons rfl (fun K hK => ?_) AllReadyH.nil)
    go_simp
    go_at_call 101
    refine (HA.out _).mono ?_
    rintro e V3 ⟨rfl, hb3⟩
    refine hK.out _ _ (hHeld.keep hb3) (fun hHeld => ?_)
    clear hK K
    try simp only [List.getElem_toArray, List.getElem_cons_zero, List.getElem_cons_succ, Act.put, List.setIfInBounds_toArray, List.set_cons_zero, List.set_cons_succ]
    refine wpAnyH_take (i := 4) (v := .float .f64 i) rfl (by kernel_rfl) (by kernel_rfl) (by kernel_rfl) (fun _ _ _ h => h) (Or.inl ⟨by rfl, ?y59⟩) (by assumption) ?r59
    case y59 =>
      intro w1 hSw
      go_simp
      try with_reducible rfl
    try simp only [List.getElem_toArray, List.getElem_cons_zero, List.getElem_cons_succ, Act.put, List.setIfInBounds_toArray, List.set_cons_zero, List.set_cons_succ]
    refine wpAnyH_ready (rs := [8]) (by kernel_rfl) (by simp) (AllReadyH.cons rfl (fun K hK => ?_) AllReadyH.nil)
    go_simp
    go_at_call 101
    refine (HAd.out _).mono ?_
    rintro e V8 ⟨rfl, hb8⟩
    refine hK.out _ _ (hHeld.keep hb8) (fun hHeld => ?_)
    clear hK K
    try simp only [List.getElem_toArray, List.getElem_cons_zero, List.getElem_cons_succ, Act.put, List.setIfInBounds_toArray, List.set_cons_zero, List.set_cons_succ]
    refine wpAnyH_take (i := 9) (v := .bool false) rfl (by kernel_rfl) (by kernel_rfl) (by kernel_rfl) (fun _ _ _ h => h) (Or.inl ⟨by rfl, ?y60⟩) (by assumption) ?r60
    case y60 =>
      intro w1 hSw
      go_simp
      try with_reducible rfl
    try simp only [List.getElem_toArray, List.getElem_cons_zero, List.getElem_cons_succ, Act.put, List.setIfInBounds_toArray, List.set_cons_zero, List.set_cons_succ]
    refine wpAnyH_done (by kernel_rfl) ?_ _
    refine NoPanic.normal ?_
    have HT := Lib.hid hHeld
    clear hHeld t4
    obtain ⟨_, r1, r2, r3, r4⟩ := HT.out.one
    obtain ⟨_, s1, s2, s3, s4⟩ := HT.out.two
    go_wp2_with (first | (go_at_call 69; (with_reducible refine (HK.out _ g' HT.out.two).mono ?_); rintro e V ⟨rfl, hb⟩; replace HT := Lib.hid (HT.out.keep hb); clear r1 r2 r3 r4 s1 s2 s3 s4; obtain ⟨_, r1, r2, r3, r4⟩ := HT.out.one; obtain ⟨_, s1, s2, s3, s4⟩ := HT.out.two; clear hb) | (go_at_call 113; (with_reducible refine (HL.out _).mono ?_); rintro e V ⟨rfl, hb⟩; replace HT := Lib.hid (HT.out.keep hb); clear r1 r2 r3 r4 s1 s2 s3 s4; obtain ⟨_, r1, r2, r3, r4⟩ := HT.out.one; obtain ⟨_, s1, s2, s3, s4⟩ := HT.out.two; clear hb) | (go_at_call 114; (with_reducible refine (HP.out _).mono ?_); rintro e V ⟨rfl, hb⟩; replace HT := Lib.hid (HT.out.keep hb); clear r1 r2 r3 r4 s1 s2 s3 s4; obtain ⟨_, r1, r2, r3, r4⟩ := HT.out.one; obtain ⟨_, s1, s2, s3, s4⟩ := HT.out.two; clear hb) | (go_at_call 114; (with_reducible refine (HPd.out _).mono ?_); rintro e V ⟨rfl, hb⟩; replace HT := Lib.hid (HT.out.keep hb); clear r1 r2 r3 r4 s1 s2 s3 s4; obtain ⟨_, r1, r2, r3, r4⟩ := HT.out.one; obtain ⟨_, s1, s2, s3, s4⟩ := HT.out.two; clear hb) | (go_at_call 99; (with_reducible refine (HWd.out _).mono ?_); rintro e V ⟨rfl, hb⟩; replace HT := Lib.hid (HT.out.keep hb); clear r1 r2 r3 r4 s1 s2 s3 s4; obtain ⟨_, r1, r2, r3, r4⟩ := HT.out.one; obtain ⟨_, s1, s2, s3, s4⟩ := HT.out.two; clear hb) | (go_at_call 100; (with_reducible refine (HHd.out _).mono ?_); rintro e V ⟨rfl, hb⟩; replace HT := Lib.hid (HT.out.keep hb); clear r1 r2 r3 r4 s1 s2 s3 s4; obtain ⟨_, r1, r2, r3, r4⟩ := HT.out.one; obtain ⟨_, s1, s2, s3, s4⟩ := HT.out.two; clear hb) | (go_at_call 72; (with_reducible refine (HS.out _).mono ?_); rintro e V ⟨rfl, hb⟩; replace HT := Lib.hid (HT.out.keep hb); clear r1 r2 r3 r4 s1 s2 s3 s4; obtain ⟨_, r1, r2, r3, r4⟩ := HT.out.one; obtain ⟨_, s1, s2, s3, s4⟩ := HT.out.two; clear hb))
    exact bodyPost_ret (v := .tuple #[.float .f64 Y, .float .f64 m, .float .f64 n2, .float .f64 0, .float .f64 4636033603912859648]) (by simp [results, Try.results97, go_sem]) rfl ⟨rfl, HT.out.below⟩
set_option linter.unusedSimpArgs false in
set_option maxRecDepth 100000 in
set_option maxHeartbeats 8000000 in
theorem fit_P5 {g a b c d g' a' b' c' d' x y X Y r s : Nat} (up : Bool) (w : World) (hg : RectAt w g a b c d) (hg' : RectAt w g' a' b' c' d') (hz : Sizes a b c d a' b' c' d' x y X Y r s) (hu : Scales up a b c d a' b' c' d')
    (t1 : gt r w1 = false) (t2 : lt r w1 = true) (t3 : lt s w1 = false) (m n1 n2 : Nat) (hm : floatBits .mul .f64 r Y = some m) (hn1 : floatBits .sub .f64 X m = some n1) (hn2 : floatBits .quo .f64 n1 w2 = some n2) :
    Calls Try.prog 97 #[.pointer (some ⟨g, 0, none⟩), .pointer (some ⟨g', 0, none⟩), .bool false, .bool up] w fun e w' => e = .returned (.tuple #[.float .f64 m, .float .f64 Y, .float .f64 n2, .float .f64 0, .float .f64 0]) ∧ Below w.heap.size w w' := by
  have HT := Lib.hid (⟨Below.refl _ _, hg, hg'⟩ : TwoR w g a b c d g' a' b' c' d' w)
  obtain ⟨_, r1, r2, r3, r4⟩ := HT.out.one
  obtain ⟨_, s1, s2, s3, s4⟩ := HT.out.two
  have HL := Lib.hid (fun W => land_any (r := r) (v := false) W hz.hx hz.hy hz.hr t1)
  have HP := Lib.hid (fun W => port_any (r := r) (v := true) W hz.hx hz.hy hz.hr t2)
  have HPd := Lib.hid (fun W => port_any (r := s) (v := false) W hz.hX hz.hY hz.hs t3)
  have HA := Lib.hid (fun W => aspect_any (r := r) W hz.hx hz.hy hz.hr)
  have HAd := Lib.hid (fun W => aspect_any (r := s) W hz.hX hz.hY hz.hs)
  have HWd := Lib.hid (fun W => width_any (b := b') (d := d') W hz.hX)
  have HHd := Lib.hid (fun W => height_any (a := a') (c := c') W hz.hY)
  have HS := Lib.hid (fun W => swidth_any W hz.hx hz.hy hz.hr hm)
  have o1 := run_bin (P := Try.prog) .sub hn1
  have o2 := run_bin (P := Try.prog) .quo hn2
  have HU := Lib.hid hu
  clear hg hg' hz hm hn1 hn2 hu t1 t2 t3
  rcases HU.out with rfl | ⟨rfl, hk0⟩
  · clear HU
    go_enter Try.func97, Try.ntmps97
    go_wp2_with (first | (go_at_call 113; (with_reducible refine (HL.out _).mono ?_); rintro e V ⟨rfl, hb⟩; replace HT := Lib.hid (HT.out.keep hb); clear r1 r2 r3 r4 s1 s2 s3 s4; obtain ⟨_, r1, r2, r3, r4⟩ := HT.out.one; obtain ⟨_, s1, s2, s3, s4⟩ := HT.out.two; clear hb) | (go_at_call 114; (with_reducible refine (HP.out _).mono ?_); rintro e V ⟨rfl, hb⟩; replace HT := Lib.hid (HT.out.keep hb); clear r1 r2 r3 r4 s1 s2 s3 s4; obtain ⟨_, r1, r2, r3, r4⟩ := HT.out.one; obtain ⟨_, s1, s2, s3, s4⟩ := HT.out.two; clear hb) | (go_at_call 114; (with_reducible refine (HPd.out _).mono ?_); rintro e V ⟨rfl, hb⟩; replace HT := Lib.hid (HT.out.keep hb); clear r1 r2 r3 r4 s1 s2 s3 s4; obtain ⟨_, r1, r2, r3, r4⟩ := HT.out.one; obtain ⟨_, s1, s2, s3, s4⟩ := HT.out.two; clear hb) | (go_at_call 99; (with_reducible refine (HWd.out _).mono ?_); rintro e V ⟨rfl, hb⟩; replace HT := Lib.hid (HT.out.keep hb); clear r1 r2 r3 r4 s1 s2 s3 s4; obtain ⟨_, r1, r2, r3, r4⟩ := HT.out.one; obtain ⟨_, s1, s2, s3, s4⟩ := HT.out.two; clear hb) | (go_at_call 100; (with_reducible refine (HHd.out _).mono ?_); rintro e V ⟨rfl, hb⟩; replace HT := Lib.hid (HT.out.keep hb); clear r1 r2 r3 r4 s1 s2 s3 s4; obtain ⟨_, r1, r2, r3, r4⟩ := HT.out.one; obtain ⟨_, s1, s2, s3, s4⟩ := HT.out.two; clear hb) | (go_at_call 73; (with_reducible refine (HS.out _).mono ?_); rintro e V ⟨rfl, hb⟩; replace HT := Lib.hid (HT.out.keep hb); clear r1 r2 r3 r4 s1 s2 s3 s4; obtain ⟨_, r1, r2, r3, r4⟩ := HT.out.one; obtain ⟨_, s1, s2, s3, s4⟩ := HT.out.two; clear hb))
    exact bodyPost_ret (v := .tuple #[.float .f64 m, .float .f64 Y, .float .f64 n2, .float .f64 0, .float .f64 0]) (by simp [results, Try.results97, go_sem]) rfl ⟨rfl, HT.out.below⟩
  · have HK := Lib.hid hk0
    clear HU hk0
    go_enter Try.func97, Try.ntmps97
    go_wp2_with (first | (go_at_call 69; (with_reducible refine (HK.out _ g' HT.out.two).mono ?_); rintro e V ⟨rfl, hb⟩; replace HT := Lib.hid (HT.out.keep hb); clear r1 r2 r3 r4 s1 s2 s3 s4; obtain ⟨_, r1, r2, r3, r4⟩ := HT.out.one; obtain ⟨_, s1, s2, s3, s4⟩ := HT.out.two; clear hb) | (go_at_call 113; (with_reducible refine (HL.out _).mono ?_); rintro e V ⟨rfl, hb⟩; replace HT := Lib.hid (HT.out.keep hb); clear r1 r2 r3 r4 s1 s2 s3 s4; obtain ⟨_, r1, r2, r3, r4⟩ := HT.out.one; obtain ⟨_, s1, s2, s3, s4⟩ := HT.out.two; clear hb) | (go_at_call 114; (with_reducible refine (HP.out _).mono ?_); rintro e V ⟨rfl, hb⟩; replace HT := Lib.hid (HT.out.keep hb); clear r1 r2 r3 r4 s1 s2 s3 s4; obtain ⟨_, r1, r2, r3, r4⟩ := HT.out.one; obtain ⟨_, s1, s2, s3, s4⟩ := HT.out.two; clear hb) | (go_at_call 114; (with_reducible refine (HPd.out _).mono ?_); rintro e V ⟨rfl, hb⟩; replace HT := Lib.hid (HT.out.keep hb); clear r1 r2 r3 r4 s1 s2 s3 s4; obtain ⟨_, r1, r2, r3, r4⟩ := HT.out.one; obtain ⟨_, s1, s2, s3, s4⟩ := HT.out.two; clear hb) | (go_at_call 99; (with_reducible refine (HWd.out _).mono ?_); rintro e V ⟨rfl, hb⟩; replace HT := Lib.hid (HT.out.keep hb); clear r1 r2 r3 r4 s1 s2 s3 s4; obtain ⟨_, r1, r2, r3, r4⟩ := HT.out.one; obtain ⟨_, s1, s2, s3, s4⟩ := HT.out.two; clear hb) | (go_at_call 100; (with_reducible refine (HHd.out _).mono ?_); rintro e V ⟨rfl, hb⟩; replace HT := Lib.hid (HT.out.keep hb); clear r1 r2 r3 r4 s1 s2 s3 s4; obtain ⟨_, r1, r2, r3, r4⟩ := HT.out.one; obtain ⟨_, s1, s2, s3, s4⟩ := HT.out.two; clear hb) | (go_at_call 73; (with_reducible refine (HS.out _).mono ?_); rintro e V ⟨rfl, hb⟩; replace HT := Lib.hid (HT.out.keep hb); clear r1 r2 r3 r4 s1 s2 s3 s4; obtain ⟨_, r1, r2, r3, r4⟩ := HT.out.one; obtain ⟨_, s1, s2, s3, s4⟩ := HT.out.two; clear hb))
    exact bodyPost_ret (v := .tuple #[.float .f64 m, .float .f64 Y, .float .f64 n2, .float .f64 0, .float .f64 0]) (by simp [results, Try.results97, go_sem]) rfl ⟨rfl, HT.out.below⟩
end Go.Proofs.Ytooghncdhjdcpaa
