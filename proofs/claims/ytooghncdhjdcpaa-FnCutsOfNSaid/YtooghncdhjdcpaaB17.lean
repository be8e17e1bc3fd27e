/-
The law FnCutsOfN: createNDownCuts walked, by cases. Conditions: the operations' answers are given.
-/
import Derived.Test.YtooghncdhjdcpaaA6
import Derived.Test.YtooghncdhjdcpaaFx
import Derived.Laws.AppendOwn
import Derived.Deep.Grids
namespace Go.Proofs.Ytooghncdhjdcpaa
open Go.RowKit Fl

/-- Block p holds the words of L ahead. -/
def FloatsAt (w : World) (p : Nat) (L : List Nat) : Prop := p < w.heap.size ∧ ∀ j x, L[j]? = some x → w.cell? ⟨p, j, none⟩ = some (.float .f64 x)
theorem FloatsAt.below {W W' : World} {p : Nat} {L : List Nat} (h : FloatsAt W p L) (hb : Below W.heap.size W W') : FloatsAt W' p L := by
  have hs := hb.size
  refine ⟨by have := h.1; omega, fun j x hx => ?_⟩
  rw [hb.cell (by simpa using h.1)]; exact h.2 j x hx
/-- What the cuts' functions hand back. -/
def Cuts (L1 L2 : List Nat) (w : World) (t : Value) (e : Ending) (w' : World) : Prop :=
  ∃ p q c1 c2, e = .returned (.tuple #[.slice (some ⟨p, 0, none⟩) L1.length c1, .slice (some ⟨q, 0, none⟩) L2.length c2, t]) ∧ FloatsAt w' p L1 ∧ FloatsAt w' q L2 ∧ Below w.heap.size w w'
theorem info22 : (Try.prog.info? 22).map (fun i => (i.zero, i.size, i.bytes)) = some (some (.float .f64 0), 1, 8) := by kernel_rfl
/-- A row of floats that the call owns. -/
theorem own_floats {W : World} {base m : Nat} {v : Value} {L : List Nat} (h : W.ownsRow base 22 1 v (0 + m) ([] ++ L.map (Value.float .f64))) (hm : L.length = m) (h0 : 0 < m) :
    ∃ g c, v = .slice (some ⟨g, 0, none⟩) L.length c ∧ FloatsAt W g L ∧ base ≤ g := by
  rw [Nat.zero_add] at h
  subst hm
  rcases h.2 with ⟨_, e⟩ | ⟨g, c, cur, rfl, hb, hg, hc, _, _, ht⟩
  · omega
  · have hlt : g < W.heap.size := by
      rcases Nat.lt_or_ge g W.heap.size with k | k
      · exact k
      · rw [Array.getElem?_eq_none k] at hg; cases hg
    refine ⟨g, c, rfl, ⟨hlt, fun j x hx => ?_⟩, hb⟩
    have h1 : (cur.toList.take (L.length * 1))[j]? = some (Value.float .f64 x) := by rw [ht]; simp [hx]
    have hj : j < L.length := by
      rcases Nat.lt_or_ge j L.length with k | k
      · exact k
      · rw [List.getElem?_eq_none k] at hx; cases hx
    rw [List.getElem?_take_of_lt (by omega), Array.getElem?_toList] at h1
    simp only [World.cell?, hg]
    simpa using h1
theorem new_cells (W : World) (l : List Value) (t : TypeId) : ∀ (j : Nat) (u : Value), l[j]? = some u → (W.alloc (.cells l.toArray t)).cell? ((⟨W.heap.size, 0, none⟩ : Addr).add j) = some u := by
  intro j u hu
  have e : ((⟨W.heap.size, 0, none⟩ : Addr).add j) = ⟨W.heap.size, j, none⟩ := by simp only [Addr.add, Nat.zero_add]; cases j <;> rfl
  rw [e, cell_alloc_at]
  simpa using hu

set_option maxRecDepth 100000 in
set_option maxHeartbeats 2000000 in
theorem ncuts_2_t {g a b c d x y r : Nat} (w : World) (hr : RectAt w g a b c d) (e1 : floatBits .sub .f64 c a = some x) (e2 : floatBits .sub .f64 d b = some y) (e3 : floatBits .quo .f64 x y = some r)
    (o : (FloatKind.f64.format.order r 4607182418800017408 == some Ordering.lt) = true) :
    Calls Try.prog 105 #[.int .i64 2, .pointer (some ⟨g, 0, none⟩)] w (Cuts [0, 4602678819172646912] [0] w .nilIface) := by
  have H := Lib.hid (fun W => aspect_any (r := r) W e1 e2 e3)
  have HR := Lib.hid hr
  clear e1 e2 e3 hr
  obtain ⟨i0, hi, hz0, hz1, hz2⟩ := info_parts info22
  go_enter Try.func105, Try.ntmps105
  go_wp2_with (first | (at_builtin; refine wpList_append_own _ rfl (.tmp 13) (.tmp 14) 59 rfl w.heap.size 22 i0 (.float .f64 0) 1 8 Try.underlying59 hi hz0 hz1 hz2 rfl (by decide) _ 0 [] rfl (World.ownsRow_nil _ _ _ _) ⟨w.heap.size, 0, none⟩ 2 2 [.float .f64 0, .float .f64 4602678819172646912] rfl rfl (new_cells w _ _) (fun u hu => by simp at hu; rcases hu with rfl | rfl <;> rfl) (by decide) (by decide) (by simp) ?_; intro v1 w1 ho1 hg1 _; have hb1 : Below w.heap.size w w1 := (below1 w _).grown hg1 (by simp) (fun k h => by cases h); obtain ⟨p, c1, rfl, hp, _⟩ := own_floats (L := [0, 4602678819172646912]) ho1 rfl (by decide); have HB1 := Lib.hid hb1; have HP := Lib.hid hp; clear hb1 hp ho1 hg1) | (at_builtin; refine wpList_append_own _ rfl (.tmp 16) (.tmp 17) 59 rfl w.heap.size 22 i0 (.float .f64 0) 1 8 Try.underlying59 hi hz0 hz1 hz2 rfl (by decide) _ 0 [] rfl (World.ownsRow_nil _ _ _ _) ⟨w1.heap.size, 0, none⟩ 1 1 [.float .f64 0] rfl rfl (new_cells w1 _ _) (fun u hu => by simp at hu; rcases hu with rfl <;> rfl) (by decide) (by decide) (by have := HB1.out.size; simp; omega) ?_; intro v2 w2 ho2 hg2 _; have hb2 : Below w1.heap.size w1 w2 := (below1 w1 _).grown hg2 (by simp) (fun k h => by cases h); obtain ⟨q, c2, rfl, hq, _⟩ := own_floats (L := [0]) ho2 rfl (by decide); have HB2 : Hid (Below w.heap.size w w2) := Lib.hid (HB1.out.trans (hb2.mono HB1.out.size)); have HP2 := Lib.hid (HP.out.below hb2); have HQ := Lib.hid hq; obtain ⟨r0, r1, r2, r3, r4⟩ := HR.out.below HB2.out; clear hb2 hq ho2 hg2 HB1 HP) | (go_at_call 114; go_in) | (go_at_call 101; refine (H.out _).mono ?_; rintro e w3 ⟨rfl, hb3⟩))
  exact bodyPost_ret (v := .tuple #[.slice (some ⟨p, 0, none⟩) 2 c1, .slice (some ⟨q, 0, none⟩) 1 c2, .nilIface]) (by simp [results, Try.results105, go_sem]) rfl ⟨_, _, _, _, rfl, (HP2.out.below (below1 _ _)).below hb3, (HQ.out.below (below1 _ _)).below hb3, bel_trans hb3 (bel_alloc _ HB2.out)⟩

set_option maxRecDepth 100000 in
set_option maxHeartbeats 2000000 in
theorem ncuts_2_f {g a b c d x y r : Nat} (w : World) (hr : RectAt w g a b c d) (e1 : floatBits .sub .f64 c a = some x) (e2 : floatBits .sub .f64 d b = some y) (e3 : floatBits .quo .f64 x y = some r)
    (o : (FloatKind.f64.format.order r 4607182418800017408 == some Ordering.lt) = false) :
    Calls Try.prog 105 #[.int .i64 2, .pointer (some ⟨g, 0, none⟩)] w (Cuts [0] [0, 4602678819172646912] w .nilIface) := by
  have H := Lib.hid (fun W => aspect_any (r := r) W e1 e2 e3)
  have HR := Lib.hid hr
  clear e1 e2 e3 hr
  obtain ⟨i0, hi, hz0, hz1, hz2⟩ := info_parts info22
  go_enter Try.func105, Try.ntmps105
  go_wp2_with (first | (at_builtin; refine wpList_append_own _ rfl (.tmp 13) (.tmp 14) 59 rfl w.heap.size 22 i0 (.float .f64 0) 1 8 Try.underlying59 hi hz0 hz1 hz2 rfl (by decide) _ 0 [] rfl (World.ownsRow_nil _ _ _ _) ⟨w.heap.size, 0, none⟩ 2 2 [.float .f64 0, .float .f64 4602678819172646912] rfl rfl (new_cells w _ _) (fun u hu => by simp at hu; rcases hu with rfl | rfl <;> rfl) (by decide) (by decide) (by simp) ?_; intro v1 w1 ho1 hg1 _; have hb1 : Below w.heap.size w w1 := (below1 w _).grown hg1 (by simp) (fun k h => by cases h); obtain ⟨p, c1, rfl, hp, _⟩ := own_floats (L := [0, 4602678819172646912]) ho1 rfl (by decide); have HB1 := Lib.hid hb1; have HP := Lib.hid hp; clear hb1 hp ho1 hg1) | (at_builtin; refine wpList_append_own _ rfl (.tmp 16) (.tmp 17) 59 rfl w.heap.size 22 i0 (.float .f64 0) 1 8 Try.underlying59 hi hz0 hz1 hz2 rfl (by decide) _ 0 [] rfl (World.ownsRow_nil _ _ _ _) ⟨w1.heap.size, 0, none⟩ 1 1 [.float .f64 0] rfl rfl (new_cells w1 _ _) (fun u hu => by simp at hu; rcases hu with rfl <;> rfl) (by decide) (by decide) (by have := HB1.out.size; simp; omega) ?_; intro v2 w2 ho2 hg2 _; have hb2 : Below w1.heap.size w1 w2 := (below1 w1 _).grown hg2 (by simp) (fun k h => by cases h); obtain ⟨q, c2, rfl, hq, _⟩ := own_floats (L := [0]) ho2 rfl (by decide); have HB2 : Hid (Below w.heap.size w w2) := Lib.hid (HB1.out.trans (hb2.mono HB1.out.size)); have HP2 := Lib.hid (HP.out.below hb2); have HQ := Lib.hid hq; obtain ⟨r0, r1, r2, r3, r4⟩ := HR.out.below HB2.out; clear hb2 hq ho2 hg2 HB1 HP) | (go_at_call 114; go_in) | (go_at_call 101; refine (H.out _).mono ?_; rintro e w3 ⟨rfl, hb3⟩))
  exact bodyPost_ret (v := .tuple #[.slice (some ⟨q, 0, none⟩) 1 c2, .slice (some ⟨p, 0, none⟩) 2 c1, .nilIface]) (by simp [results, Try.results105, go_sem]) rfl ⟨_, _, _, _, rfl, (HQ.out.below (below1 _ _)).below hb3, (HP2.out.below (below1 _ _)).below hb3, bel_trans hb3 (bel_alloc _ HB2.out)⟩

set_option maxRecDepth 100000 in
set_option maxHeartbeats 2000000 in
theorem ncuts_3_t {g a b c d x y r : Nat} (w : World) (hr : RectAt w g a b c d) (e1 : floatBits .sub .f64 c a = some x) (e2 : floatBits .sub .f64 d b = some y) (e3 : floatBits .quo .f64 x y = some r)
    (o : (FloatKind.f64.format.order r 4607182418800017408 == some Ordering.lt) = true) :
    Calls Try.prog 105 #[.int .i64 3, .pointer (some ⟨g, 0, none⟩)] w (Cuts [0, 4599676359373071550, 4604179959000442046] [0] w .nilIface) := by
  have H := Lib.hid (fun W => aspect_any (r := r) W e1 e2 e3)
  have HR := Lib.hid hr
  clear e1 e2 e3 hr
  obtain ⟨i0, hi, hz0, hz1, hz2⟩ := info_parts info22
  go_enter Try.func105, Try.ntmps105
  go_wp2_with (first | (at_builtin; refine wpList_append_own _ rfl (.tmp 21) (.tmp 22) 59 rfl w.heap.size 22 i0 (.float .f64 0) 1 8 Try.underlying59 hi hz0 hz1 hz2 rfl (by decide) _ 0 [] rfl (World.ownsRow_nil _ _ _ _) ⟨w.heap.size, 0, none⟩ 3 3 [.float .f64 0, .float .f64 4599676359373071550, .float .f64 4604179959000442046] rfl rfl (new_cells w _ _) (fun u hu => by simp at hu; rcases hu with rfl | rfl | rfl <;> rfl) (by decide) (by decide) (by simp) ?_; intro v1 w1 ho1 hg1 _; have hb1 : Below w.heap.size w w1 := (below1 w _).grown hg1 (by simp) (fun k h => by cases h); obtain ⟨p, c1, rfl, hp, _⟩ := own_floats (L := [0, 4599676359373071550, 4604179959000442046]) ho1 rfl (by decide); have HB1 := Lib.hid hb1; have HP := Lib.hid hp; clear hb1 hp ho1 hg1) | (at_builtin; refine wpList_append_own _ rfl (.tmp 24) (.tmp 25) 59 rfl w.heap.size 22 i0 (.float .f64 0) 1 8 Try.underlying59 hi hz0 hz1 hz2 rfl (by decide) _ 0 [] rfl (World.ownsRow_nil _ _ _ _) ⟨w1.heap.size, 0, none⟩ 1 1 [.float .f64 0] rfl rfl (new_cells w1 _ _) (fun u hu => by simp at hu; rcases hu with rfl <;> rfl) (by decide) (by decide) (by have := HB1.out.size; simp; omega) ?_; intro v2 w2 ho2 hg2 _; have hb2 : Below w1.heap.size w1 w2 := (below1 w1 _).grown hg2 (by simp) (fun k h => by cases h); obtain ⟨q, c2, rfl, hq, _⟩ := own_floats (L := [0]) ho2 rfl (by decide); have HB2 : Hid (Below w.heap.size w w2) := Lib.hid (HB1.out.trans (hb2.mono HB1.out.size)); have HP2 := Lib.hid (HP.out.below hb2); have HQ := Lib.hid hq; obtain ⟨r0, r1, r2, r3, r4⟩ := HR.out.below HB2.out; clear hb2 hq ho2 hg2 HB1 HP) | (go_at_call 114; go_in) | (go_at_call 101; refine (H.out _).mono ?_; rintro e w3 ⟨rfl, hb3⟩))
  exact bodyPost_ret (v := .tuple #[.slice (some ⟨p, 0, none⟩) 3 c1, .slice (some ⟨q, 0, none⟩) 1 c2, .nilIface]) (by simp [results, Try.results105, go_sem]) rfl ⟨_, _, _, _, rfl, (HP2.out.below (below1 _ _)).below hb3, (HQ.out.below (below1 _ _)).below hb3, bel_trans hb3 (bel_alloc _ HB2.out)⟩

set_option maxRecDepth 100000 in
set_option maxHeartbeats 2000000 in
theorem ncuts_3_f {g a b c d x y r : Nat} (w : World) (hr : RectAt w g a b c d) (e1 : floatBits .sub .f64 c a = some x) (e2 : floatBits .sub .f64 d b = some y) (e3 : floatBits .quo .f64 x y = some r)
    (o : (FloatKind.f64.format.order r 4607182418800017408 == some Ordering.lt) = false) :
    Calls Try.prog 105 #[.int .i64 3, .pointer (some ⟨g, 0, none⟩)] w (Cuts [0] [0, 4599676359373071550, 4604179959000442046] w .nilIface) := by
  have H := Lib.hid (fun W => aspect_any (r := r) W e1 e2 e3)
  have HR := Lib.hid hr
  clear e1 e2 e3 hr
  obtain ⟨i0, hi, hz0, hz1, hz2⟩ := info_parts info22
  go_enter Try.func105, Try.ntmps105
  go_wp2_with (first | (at_builtin; refine wpList_append_own _ rfl (.tmp 21) (.tmp 22) 59 rfl w.heap.size 22 i0 (.float .f64 0) 1 8 Try.underlying59 hi hz0 hz1 hz2 rfl (by decide) _ 0 [] rfl (World.ownsRow_nil _ _ _ _) ⟨w.heap.size, 0, none⟩ 3 3 [.float .f64 0, .float .f64 4599676359373071550, .float .f64 4604179959000442046] rfl rfl (new_cells w _ _) (fun u hu => by simp at hu; rcases hu with rfl | rfl | rfl <;> rfl) (by decide) (by decide) (by simp) ?_; intro v1 w1 ho1 hg1 _; have hb1 : Below w.heap.size w w1 := (below1 w _).grown hg1 (by simp) (fun k h => by cases h); obtain ⟨p, c1, rfl, hp, _⟩ := own_floats (L := [0, 4599676359373071550, 4604179959000442046]) ho1 rfl (by decide); have HB1 := Lib.hid hb1; have HP := Lib.hid hp; clear hb1 hp ho1 hg1) | (at_builtin; refine wpList_append_own _ rfl (.tmp 24) (.tmp 25) 59 rfl w.heap.size 22 i0 (.float .f64 0) 1 8 Try.underlying59 hi hz0 hz1 hz2 rfl (by decide) _ 0 [] rfl (World.ownsRow_nil _ _ _ _) ⟨w1.heap.size, 0, none⟩ 1 1 [.float .f64 0] rfl rfl (new_cells w1 _ _) (fun u hu => by simp at hu; rcases hu with rfl <;> rfl) (by decide) (by decide) (by have := HB1.out.size; simp; omega) ?_; intro v2 w2 ho2 hg2 _; have hb2 : Below w1.heap.size w1 w2 := (below1 w1 _).grown hg2 (by simp) (fun k h => by cases h); obtain ⟨q, c2, rfl, hq, _⟩ := own_floats (L := [0]) ho2 rfl (by decide); have HB2 : Hid (Below w.heap.size w w2) := Lib.hid (HB1.out.trans (hb2.mono HB1.out.size)); have HP2 := Lib.hid (HP.out.below hb2); have HQ := Lib.hid hq; obtain ⟨r0, r1, r2, r3, r4⟩ := HR.out.below HB2.out; clear hb2 hq ho2 hg2 HB1 HP) | (go_at_call 114; go_in) | (go_at_call 101; refine (H.out _).mono ?_; rintro e w3 ⟨rfl, hb3⟩))
  exact bodyPost_ret (v := .tuple #[.slice (some ⟨q, 0, none⟩) 1 c2, .slice (some ⟨p, 0, none⟩) 3 c1, .nilIface]) (by simp [results, Try.results105, go_sem]) rfl ⟨_, _, _, _, rfl, (HQ.out.below (below1 _ _)).below hb3, (HP2.out.below (below1 _ _)).below hb3, bel_trans hb3 (bel_alloc _ HB2.out)⟩

set_option maxRecDepth 100000 in
set_option maxHeartbeats 2000000 in
theorem ncuts_4_t {g a b c d x y r : Nat} (w : World) (hr : RectAt w g a b c d) (e1 : floatBits .sub .f64 c a = some x) (e2 : floatBits .sub .f64 d b = some y) (e3 : floatBits .quo .f64 x y = some r)
    (o : (FloatKind.f64.format.order r 4607182418800017408 == some Ordering.lt) = true) :
    Calls Try.prog 105 #[.int .i64 4, .pointer (some ⟨g, 0, none⟩)] w (Cuts [0, 4602678819172646912] [0, 4602678819172646912] w .nilIface) := by
  have H := Lib.hid (fun W => aspect_any (r := r) W e1 e2 e3)
  have HR := Lib.hid hr
  clear e1 e2 e3 hr
  obtain ⟨i0, hi, hz0, hz1, hz2⟩ := info_parts info22
  go_enter Try.func105, Try.ntmps105
  go_wp2_with (first | (at_builtin; refine wpList_append_own _ rfl (.tmp 29) (.tmp 30) 59 rfl w.heap.size 22 i0 (.float .f64 0) 1 8 Try.underlying59 hi hz0 hz1 hz2 rfl (by decide) _ 0 [] rfl (World.ownsRow_nil _ _ _ _) ⟨w.heap.size, 0, none⟩ 2 2 [.float .f64 0, .float .f64 4602678819172646912] rfl rfl (new_cells w _ _) (fun u hu => by simp at hu; rcases hu with rfl | rfl <;> rfl) (by decide) (by decide) (by simp) ?_; intro v1 w1 ho1 hg1 _; have hb1 : Below w.heap.size w w1 := (below1 w _).grown hg1 (by simp) (fun k h => by cases h); obtain ⟨p, c1, rfl, hp, _⟩ := own_floats (L := [0, 4602678819172646912]) ho1 rfl (by decide); have HB1 := Lib.hid hb1; have HP := Lib.hid hp; clear hb1 hp ho1 hg1) | (at_builtin; refine wpList_append_own _ rfl (.tmp 32) (.tmp 33) 59 rfl w.heap.size 22 i0 (.float .f64 0) 1 8 Try.underlying59 hi hz0 hz1 hz2 rfl (by decide) _ 0 [] rfl (World.ownsRow_nil _ _ _ _) ⟨w1.heap.size, 0, none⟩ 2 2 [.float .f64 0, .float .f64 4602678819172646912] rfl rfl (new_cells w1 _ _) (fun u hu => by simp at hu; rcases hu with rfl | rfl <;> rfl) (by decide) (by decide) (by have := HB1.out.size; simp; omega) ?_; intro v2 w2 ho2 hg2 _; have hb2 : Below w1.heap.size w1 w2 := (below1 w1 _).grown hg2 (by simp) (fun k h => by cases h); obtain ⟨q, c2, rfl, hq, _⟩ := own_floats (L := [0, 4602678819172646912]) ho2 rfl (by decide); have HB2 : Hid (Below w.heap.size w w2) := Lib.hid (HB1.out.trans (hb2.mono HB1.out.size)); have HP2 := Lib.hid (HP.out.below hb2); have HQ := Lib.hid hq; obtain ⟨r0, r1, r2, r3, r4⟩ := HR.out.below HB2.out; clear hb2 hq ho2 hg2 HB1 HP) | (go_at_call 114; go_in) | (go_at_call 101; refine (H.out _).mono ?_; rintro e w3 ⟨rfl, hb3⟩))
  exact bodyPost_ret (v := .tuple #[.slice (some ⟨p, 0, none⟩) 2 c1, .slice (some ⟨q, 0, none⟩) 2 c2, .nilIface]) (by simp [results, Try.results105, go_sem]) rfl ⟨_, _, _, _, rfl, (HP2.out.below (below1 _ _)).below hb3, (HQ.out.below (below1 _ _)).below hb3, bel_trans hb3 (bel_alloc _ HB2.out)⟩

set_option maxRecDepth 100000 in
set_option maxHeartbeats 2000000 in
theorem ncuts_4_f {g a b c d x y r : Nat} (w : World) (hr : RectAt w g a b c d) (e1 : floatBits .sub .f64 c a = some x) (e2 : floatBits .sub .f64 d b = some y) (e3 : floatBits .quo .f64 x y = some r)
    (o : (FloatKind.f64.format.order r 4607182418800017408 == some Ordering.lt) = false) :
    Calls Try.prog 105 #[.int .i64 4, .pointer (some ⟨g, 0, none⟩)] w (Cuts [0, 4602678819172646912] [0, 4602678819172646912] w .nilIface) := by
  have H := Lib.hid (fun W => aspect_any (r := r) W e1 e2 e3)
  have HR := Lib.hid hr
  clear e1 e2 e3 hr
  obtain ⟨i0, hi, hz0, hz1, hz2⟩ := info_parts info22
  go_enter Try.func105, Try.ntmps105
  go_wp2_with (first | (at_builtin; refine wpList_append_own _ rfl (.tmp 29) (.tmp 30) 59 rfl w.heap.size 22 i0 (.float .f64 0) 1 8 Try.underlying59 hi hz0 hz1 hz2 rfl (by decide) _ 0 [] rfl (World.ownsRow_nil _ _ _ _) ⟨w.heap.size, 0, none⟩ 2 2 [.float .f64 0, .float .f64 4602678819172646912] rfl rfl (new_cells w _ _) (fun u hu => by simp at hu; rcases hu with rfl | rfl <;> rfl) (by decide) (by decide) (by simp) ?_; intro v1 w1 ho1 hg1 _; have hb1 : Below w.heap.size w w1 := (below1 w _).grown hg1 (by simp) (fun k h => by cases h); obtain ⟨p, c1, rfl, hp, _⟩ := own_floats (L := [0, 4602678819172646912]) ho1 rfl (by decide); have HB1 := Lib.hid hb1; have HP := Lib.hid hp; clear hb1 hp ho1 hg1) | (at_builtin; refine wpList_append_own _ rfl (.tmp 32) (.tmp 33) 59 rfl w.heap.size 22 i0 (.float .f64 0) 1 8 Try.underlying59 hi hz0 hz1 hz2 rfl (by decide) _ 0 [] rfl (World.ownsRow_nil _ _ _ _) ⟨w1.heap.size, 0, none⟩ 2 2 [.float .f64 0, .float .f64 4602678819172646912] rfl rfl (new_cells w1 _ _) (fun u hu => by simp at hu; rcases hu with rfl | rfl <;> rfl) (by decide) (by decide) (by have := HB1.out.size; simp; omega) ?_; intro v2 w2 ho2 hg2 _; have hb2 : Below w1.heap.size w1 w2 := (below1 w1 _).grown hg2 (by simp) (fun k h => by cases h); obtain ⟨q, c2, rfl, hq, _⟩ := own_floats (L := [0, 4602678819172646912]) ho2 rfl (by decide); have HB2 : Hid (Below w.heap.size w w2) := Lib.hid (HB1.out.trans (hb2.mono HB1.out.size)); have HP2 := Lib.hid (HP.out.below hb2); have HQ := Lib.hid hq; obtain ⟨r0, r1, r2, r3, r4⟩ := HR.out.below HB2.out; clear hb2 hq ho2 hg2 HB1 HP) | (go_at_call 114; go_in) | (go_at_call 101; refine (H.out _).mono ?_; rintro e w3 ⟨rfl, hb3⟩))
  exact bodyPost_ret (v := .tuple #[.slice (some ⟨q, 0, none⟩) 2 c2, .slice (some ⟨p, 0, none⟩) 2 c1, .nilIface]) (by simp [results, Try.results105, go_sem]) rfl ⟨_, _, _, _, rfl, (HQ.out.below (below1 _ _)).below hb3, (HP2.out.below (below1 _ _)).below hb3, bel_trans hb3 (bel_alloc _ HB2.out)⟩

set_option maxRecDepth 100000 in
set_option maxHeartbeats 2000000 in
theorem ncuts_6_t {g a b c d x y r : Nat} (w : World) (hr : RectAt w g a b c d) (e1 : floatBits .sub .f64 c a = some x) (e2 : floatBits .sub .f64 d b = some y) (e3 : floatBits .quo .f64 x y = some r)
    (o : (FloatKind.f64.format.order r 4607182418800017408 == some Ordering.lt) = true) :
    Calls Try.prog 105 #[.int .i64 6, .pointer (some ⟨g, 0, none⟩)] w (Cuts [0, 4599676359373071550, 4604179959000442046] [0, 4602678819172646912] w .nilIface) := by
  have H := Lib.hid (fun W => aspect_any (r := r) W e1 e2 e3)
  have HR := Lib.hid hr
  clear e1 e2 e3 hr
  obtain ⟨i0, hi, hz0, hz1, hz2⟩ := info_parts info22
  go_enter Try.func105, Try.ntmps105
  go_wp2_with (first | (at_builtin; refine wpList_append_own _ rfl (.tmp 37) (.tmp 38) 59 rfl w.heap.size 22 i0 (.float .f64 0) 1 8 Try.underlying59 hi hz0 hz1 hz2 rfl (by decide) _ 0 [] rfl (World.ownsRow_nil _ _ _ _) ⟨w.heap.size, 0, none⟩ 3 3 [.float .f64 0, .float .f64 4599676359373071550, .float .f64 4604179959000442046] rfl rfl (new_cells w _ _) (fun u hu => by simp at hu; rcases hu with rfl | rfl | rfl <;> rfl) (by decide) (by decide) (by simp) ?_; intro v1 w1 ho1 hg1 _; have hb1 : Below w.heap.size w w1 := (below1 w _).grown hg1 (by simp) (fun k h => by cases h); obtain ⟨p, c1, rfl, hp, _⟩ := own_floats (L := [0, 4599676359373071550, 4604179959000442046]) ho1 rfl (by decide); have HB1 := Lib.hid hb1; have HP := Lib.hid hp; clear hb1 hp ho1 hg1) | (at_builtin; refine wpList_append_own _ rfl (.tmp 40) (.tmp 41) 59 rfl w.heap.size 22 i0 (.float .f64 0) 1 8 Try.underlying59 hi hz0 hz1 hz2 rfl (by decide) _ 0 [] rfl (World.ownsRow_nil _ _ _ _) ⟨w1.heap.size, 0, none⟩ 2 2 [.float .f64 0, .float .f64 4602678819172646912] rfl rfl (new_cells w1 _ _) (fun u hu => by simp at hu; rcases hu with rfl | rfl <;> rfl) (by decide) (by decide) (by have := HB1.out.size; simp; omega) ?_; intro v2 w2 ho2 hg2 _; have hb2 : Below w1.heap.size w1 w2 := (below1 w1 _).grown hg2 (by simp) (fun k h => by cases h); obtain ⟨q, c2, rfl, hq, _⟩ := own_floats (L := [0, 4602678819172646912]) ho2 rfl (by decide); have HB2 : Hid (Below w.heap.size w w2) := Lib.hid (HB1.out.trans (hb2.mono HB1.out.size)); have HP2 := Lib.hid (HP.out.below hb2); have HQ := Lib.hid hq; obtain ⟨r0, r1, r2, r3, r4⟩ := HR.out.below HB2.out; clear hb2 hq ho2 hg2 HB1 HP) | (go_at_call 114; go_in) | (go_at_call 101; refine (H.out _).mono ?_; rintro e w3 ⟨rfl, hb3⟩))
  exact bodyPost_ret (v := .tuple #[.slice (some ⟨p, 0, none⟩) 3 c1, .slice (some ⟨q, 0, none⟩) 2 c2, .nilIface]) (by simp [results, Try.results105, go_sem]) rfl ⟨_, _, _, _, rfl, (HP2.out.below (below1 _ _)).below hb3, (HQ.out.below (below1 _ _)).below hb3, bel_trans hb3 (bel_alloc _ HB2.out)⟩

set_option maxRecDepth 100000 in
set_option maxHeartbeats 2000000 in
theorem ncuts_6_f {g a b c d x y r : Nat} (w : World) (hr : RectAt w g a b c d) (e1 : floatBits .sub .f64 c a = some x) (e2 : floatBits .sub .f64 d b = some y) (e3 : floatBits .quo .f64 x y = some r)
    (o : (FloatKind.f64.format.order r 4607182418800017408 == some Ordering.lt) = false) :
    Calls Try.prog 105 #[.int .i64 6, .pointer (some ⟨g, 0, none⟩)] w (Cuts [0, 4602678819172646912] [0, 4599676359373071550, 4604179959000442046] w .nilIface) := by
  have H := Lib.hid (fun W => aspect_any (r := r) W e1 e2 e3)
  have HR := Lib.hid hr
  clear e1 e2 e3 hr
  obtain ⟨i0, hi, hz0, hz1, hz2⟩ := info_parts info22
  go_enter Try.func105, Try.ntmps105
  go_wp2_with (first | (at_builtin; refine wpList_append_own _ rfl (.tmp 37) (.tmp 38) 59 rfl w.heap.size 22 i0 (.float .f64 0) 1 8 Try.underlying59 hi hz0 hz1 hz2 rfl (by decide) _ 0 [] rfl (World.ownsRow_nil _ _ _ _) ⟨w.heap.size, 0, none⟩ 3 3 [.float .f64 0, .float .f64 4599676359373071550, .float .f64 4604179959000442046] rfl rfl (new_cells w _ _) (fun u hu => by simp at hu; rcases hu with rfl | rfl | rfl <;> rfl) (by decide) (by decide) (by simp) ?_; intro v1 w1 ho1 hg1 _; have hb1 : Below w.heap.size w w1 := (below1 w _).grown hg1 (by simp) (fun k h => by cases h); obtain ⟨p, c1, rfl, hp, _⟩ := own_floats (L := [0, 4599676359373071550, 4604179959000442046]) ho1 rfl (by decide); have HB1 := Lib.hid hb1; have HP := Lib.hid hp; clear hb1 hp ho1 hg1) | (at_builtin; refine wpList_append_own _ rfl (.tmp 40) (.tmp 41) 59 rfl w.heap.size 22 i0 (.float .f64 0) 1 8 Try.underlying59 hi hz0 hz1 hz2 rfl (by decide) _ 0 [] rfl (World.ownsRow_nil _ _ _ _) ⟨w1.heap.size, 0, none⟩ 2 2 [.float .f64 0, .float .f64 4602678819172646912] rfl rfl (new_cells w1 _ _) (fun u hu => by simp at hu; rcases hu with rfl | rfl <;> rfl) (by decide) (by decide) (by have := HB1.out.size; simp; omega) ?_; intro v2 w2 ho2 hg2 _; have hb2 : Below w1.heap.size w1 w2 := (below1 w1 _).grown hg2 (by simp) (fun k h => by cases h); obtain ⟨q, c2, rfl, hq, _⟩ := own_floats (L := [0, 4602678819172646912]) ho2 rfl (by decide); have HB2 : Hid (Below w.heap.size w w2) := Lib.hid (HB1.out.trans (hb2.mono HB1.out.size)); have HP2 := Lib.hid (HP.out.below hb2); have HQ := Lib.hid hq; obtain ⟨r0, r1, r2, r3, r4⟩ := HR.out.below HB2.out; clear hb2 hq ho2 hg2 HB1 HP) | (go_at_call 114; go_in) | (go_at_call 101; refine (H.out _).mono ?_; rintro e w3 ⟨rfl, hb3⟩))
  exact bodyPost_ret (v := .tuple #[.slice (some ⟨q, 0, none⟩) 2 c2, .slice (some ⟨p, 0, none⟩) 3 c1, .nilIface]) (by simp [results, Try.results105, go_sem]) rfl ⟨_, _, _, _, rfl, (HQ.out.below (below1 _ _)).below hb3, (HP2.out.below (below1 _ _)).below hb3, bel_trans hb3 (bel_alloc _ HB2.out)⟩

set_option maxRecDepth 100000 in
set_option maxHeartbeats 2000000 in
theorem ncuts_8_t {g a b c d x y r : Nat} (w : World) (hr : RectAt w g a b c d) (e1 : floatBits .sub .f64 c a = some x) (e2 : floatBits .sub .f64 d b = some y) (e3 : floatBits .quo .f64 x y = some r)
    (o : (FloatKind.f64.format.order r 4607182418800017408 == some Ordering.lt) = true) :
    Calls Try.prog 105 #[.int .i64 8, .pointer (some ⟨g, 0, none⟩)] w (Cuts [0, 4598175219545276416, 4602678819172646912, 4604930618986332160] [0, 4602678819172646912] w .nilIface) := by
  have H := Lib.hid (fun W => aspect_any (r := r) W e1 e2 e3)
  have HR := Lib.hid hr
  clear e1 e2 e3 hr
  obtain ⟨i0, hi, hz0, hz1, hz2⟩ := info_parts info22
  go_enter Try.func105, Try.ntmps105
  go_wp2_with (first | (at_builtin; refine wpList_append_own _ rfl (.tmp 45) (.tmp 46) 59 rfl w.heap.size 22 i0 (.float .f64 0) 1 8 Try.underlying59 hi hz0 hz1 hz2 rfl (by decide) _ 0 [] rfl (World.ownsRow_nil _ _ _ _) ⟨w.heap.size, 0, none⟩ 4 4 [.float .f64 0, .float .f64 4598175219545276416, .float .f64 4602678819172646912, .float .f64 4604930618986332160] rfl rfl (new_cells w _ _) (fun u hu => by simp at hu; rcases hu with rfl | rfl | rfl | rfl <;> rfl) (by decide) (by decide) (by simp) ?_; intro v1 w1 ho1 hg1 _; have hb1 : Below w.heap.size w w1 := (below1 w _).grown hg1 (by simp) (fun k h => by cases h); obtain ⟨p, c1, rfl, hp, _⟩ := own_floats (L := [0, 4598175219545276416, 4602678819172646912, 4604930618986332160]) ho1 rfl (by decide); have HB1 := Lib.hid hb1; have HP := Lib.hid hp; clear hb1 hp ho1 hg1) | (at_builtin; refine wpList_append_own _ rfl (.tmp 48) (.tmp 49) 59 rfl w.heap.size 22 i0 (.float .f64 0) 1 8 Try.underlying59 hi hz0 hz1 hz2 rfl (by decide) _ 0 [] rfl (World.ownsRow_nil _ _ _ _) ⟨w1.heap.size, 0, none⟩ 2 2 [.float .f64 0, .float .f64 4602678819172646912] rfl rfl (new_cells w1 _ _) (fun u hu => by simp at hu; rcases hu with rfl | rfl <;> rfl) (by decide) (by decide) (by have := HB1.out.size; simp; omega) ?_; intro v2 w2 ho2 hg2 _; have hb2 : Below w1.heap.size w1 w2 := (below1 w1 _).grown hg2 (by simp) (fun k h => by cases h); obtain ⟨q, c2, rfl, hq, _⟩ := own_floats (L := [0, 4602678819172646912]) ho2 rfl (by decide); have HB2 : Hid (Below w.heap.size w w2) := Lib.hid (HB1.out.trans (hb2.mono HB1.out.size)); have HP2 := Lib.hid (HP.out.below hb2); have HQ := Lib.hid hq; obtain ⟨r0, r1, r2, r3, r4⟩ := HR.out.below HB2.out; clear hb2 hq ho2 hg2 HB1 HP) | (go_at_call 114; go_in) | (go_at_call 101; refine (H.out _).mono ?_; rintro e w3 ⟨rfl, hb3⟩))
  exact bodyPost_ret (v := .tuple #[.slice (some ⟨p, 0, none⟩) 4 c1, .slice (some ⟨q, 0, none⟩) 2 c2, .nilIface]) (by simp [results, Try.results105, go_sem]) rfl ⟨_, _, _, _, rfl, (HP2.out.below (below1 _ _)).below hb3, (HQ.out.below (below1 _ _)).below hb3, bel_trans hb3 (bel_alloc _ HB2.out)⟩

set_option maxRecDepth 100000 in
set_option maxHeartbeats 2000000 in
theorem ncuts_8_f {g a b c d x y r : Nat} (w : World) (hr : RectAt w g a b c d) (e1 : floatBits .sub .f64 c a = some x) (e2 : floatBits .sub .f64 d b = some y) (e3 : floatBits .quo .f64 x y = some r)
    (o : (FloatKind.f64.format.order r 4607182418800017408 == some Ordering.lt) = false) :
    Calls Try.prog 105 #[.int .i64 8, .pointer (some ⟨g, 0, none⟩)] w (Cuts [0, 4602678819172646912] [0, 4598175219545276416, 4602678819172646912, 4604930618986332160] w .nilIface) := by
  have H := Lib.hid (fun W => aspect_any (r := r) W e1 e2 e3)
  have HR := Lib.hid hr
  clear e1 e2 e3 hr
  obtain ⟨i0, hi, hz0, hz1, hz2⟩ := info_parts info22
  go_enter Try.func105, Try.ntmps105
  go_wp2_with (first | (at_builtin; refine wpList_append_own _ rfl (.tmp 45) (.tmp 46) 59 rfl w.heap.size 22 i0 (.float .f64 0) 1 8 Try.underlying59 hi hz0 hz1 hz2 rfl (by decide) _ 0 [] rfl (World.ownsRow_nil _ _ _ _) ⟨w.heap.size, 0, none⟩ 4 4 [.float .f64 0, .float .f64 4598175219545276416, .float .f64 4602678819172646912, .float .f64 4604930618986332160] rfl rfl (new_cells w _ _) (fun u hu => by simp at hu; rcases hu with rfl | rfl | rfl | rfl <;> rfl) (by decide) (by decide) (by simp) ?_; intro v1 w1 ho1 hg1 _; have hb1 : Below w.heap.size w w1 := (below1 w _).grown hg1 (by simp) (fun k h => by cases h); obtain ⟨p, c1, rfl, hp, _⟩ := own_floats (L := [0, 4598175219545276416, 4602678819172646912, 4604930618986332160]) ho1 rfl (by decide); have HB1 := Lib.hid hb1; have HP := Lib.hid hp; clear hb1 hp ho1 hg1) | (at_builtin; refine wpList_append_own _ rfl (.tmp 48) (.tmp 49) 59 rfl w.heap.size 22 i0 (.float .f64 0) 1 8 Try.underlying59 hi hz0 hz1 hz2 rfl (by decide) _ 0 [] rfl (World.ownsRow_nil _ _ _ _) ⟨w1.heap.size, 0, none⟩ 2 2 [.float .f64 0, .float .f64 4602678819172646912] rfl rfl (new_cells w1 _ _) (fun u hu => by simp at hu; rcases hu with rfl | rfl <;> rfl) (by decide) (by decide) (by have := HB1.out.size; simp; omega) ?_; intro v2 w2 ho2 hg2 _; have hb2 : Below w1.heap.size w1 w2 := (below1 w1 _).grown hg2 (by simp) (fun k h => by cases h); obtain ⟨q, c2, rfl, hq, _⟩ := own_floats (L := [0, 4602678819172646912]) ho2 rfl (by decide); have HB2 : Hid (Below w.heap.size w w2) := Lib.hid (HB1.out.trans (hb2.mono HB1.out.size)); have HP2 := Lib.hid (HP.out.below hb2); have HQ := Lib.hid hq; obtain ⟨r0, r1, r2, r3, r4⟩ := HR.out.below HB2.out; clear hb2 hq ho2 hg2 HB1 HP) | (go_at_call 114; go_in) | (go_at_call 101; refine (H.out _).mono ?_; rintro e w3 ⟨rfl, hb3⟩))
  exact bodyPost_ret (v := .tuple #[.slice (some ⟨q, 0, none⟩) 2 c2, .slice (some ⟨p, 0, none⟩) 4 c1, .nilIface]) (by simp [results, Try.results105, go_sem]) rfl ⟨_, _, _, _, rfl, (HQ.out.below (below1 _ _)).below hb3, (HP2.out.below (below1 _ _)).below hb3, bel_trans hb3 (bel_alloc _ HB2.out)⟩

set_option maxRecDepth 100000 in
set_option maxHeartbeats 2000000 in
theorem ncuts_9_t {g a b c d x y r : Nat} (w : World) (hr : RectAt w g a b c d) (e1 : floatBits .sub .f64 c a = some x) (e2 : floatBits .sub .f64 d b = some y) (e3 : floatBits .quo .f64 x y = some r)
    (o : (FloatKind.f64.format.order r 4607182418800017408 == some Ordering.lt) = true) :
    Calls Try.prog 105 #[.int .i64 9, .pointer (some ⟨g, 0, none⟩)] w (Cuts [0, 4599676359373071550, 4604179959000442046] [0, 4599676359373071550, 4604179959000442046] w .nilIface) := by
  have H := Lib.hid (fun W => aspect_any (r := r) W e1 e2 e3)
  have HR := Lib.hid hr
  clear e1 e2 e3 hr
  obtain ⟨i0, hi, hz0, hz1, hz2⟩ := info_parts info22
  go_enter Try.func105, Try.ntmps105
  go_wp2_with (first | (at_builtin; refine wpList_append_own _ rfl (.tmp 53) (.tmp 54) 59 rfl w.heap.size 22 i0 (.float .f64 0) 1 8 Try.underlying59 hi hz0 hz1 hz2 rfl (by decide) _ 0 [] rfl (World.ownsRow_nil _ _ _ _) ⟨w.heap.size, 0, none⟩ 3 3 [.float .f64 0, .float .f64 4599676359373071550, .float .f64 4604179959000442046] rfl rfl (new_cells w _ _) (fun u hu => by simp at hu; rcases hu with rfl | rfl | rfl <;> rfl) (by decide) (by decide) (by simp) ?_; intro v1 w1 ho1 hg1 _; have hb1 : Below w.heap.size w w1 := (below1 w _).grown hg1 (by simp) (fun k h => by cases h); obtain ⟨p, c1, rfl, hp, _⟩ := own_floats (L := [0, 4599676359373071550, 4604179959000442046]) ho1 rfl (by decide); have HB1 := Lib.hid hb1; have HP := Lib.hid hp; clear hb1 hp ho1 hg1) | (at_builtin; refine wpList_append_own _ rfl (.tmp 56) (.tmp 57) 59 rfl w.heap.size 22 i0 (.float .f64 0) 1 8 Try.underlying59 hi hz0 hz1 hz2 rfl (by decide) _ 0 [] rfl (World.ownsRow_nil _ _ _ _) ⟨w1.heap.size, 0, none⟩ 3 3 [.float .f64 0, .float .f64 4599676359373071550, .float .f64 4604179959000442046] rfl rfl (new_cells w1 _ _) (fun u hu => by simp at hu; rcases hu with rfl | rfl | rfl <;> rfl) (by decide) (by decide) (by have := HB1.out.size; simp; omega) ?_; intro v2 w2 ho2 hg2 _; have hb2 : Below w1.heap.size w1 w2 := (below1 w1 _).grown hg2 (by simp) (fun k h => by cases h); obtain ⟨q, c2, rfl, hq, _⟩ := own_floats (L := [0, 4599676359373071550, 4604179959000442046]) ho2 rfl (by decide); have HB2 : Hid (Below w.heap.size w w2) := Lib.hid (HB1.out.trans (hb2.mono HB1.out.size)); have HP2 := Lib.hid (HP.out.below hb2); have HQ := Lib.hid hq; obtain ⟨r0, r1, r2, r3, r4⟩ := HR.out.below HB2.out; clear hb2 hq ho2 hg2 HB1 HP) | (go_at_call 114; go_in) | (go_at_call 101; refine (H.out _).mono ?_; rintro e w3 ⟨rfl, hb3⟩))
  exact bodyPost_ret (v := .tuple #[.slice (some ⟨p, 0, none⟩) 3 c1, .slice (some ⟨q, 0, none⟩) 3 c2, .nilIface]) (by simp [results, Try.results105, go_sem]) rfl ⟨_, _, _, _, rfl, (HP2.out.below (below1 _ _)).below hb3, (HQ.out.below (below1 _ _)).below hb3, bel_trans hb3 (bel_alloc _ HB2.out)⟩

set_option maxRecDepth 100000 in
set_option maxHeartbeats 2000000 in
theorem ncuts_9_f {g a b c d x y r : Nat} (w : World) (hr : RectAt w g a b c d) (e1 : floatBits .sub .f64 c a = some x) (e2 : floatBits .sub .f64 d b = some y) (e3 : floatBits .quo .f64 x y = some r)
    (o : (FloatKind.f64.format.order r 4607182418800017408 == some Ordering.lt) = false) :
    Calls Try.prog 105 #[.int .i64 9, .pointer (some ⟨g, 0, none⟩)] w (Cuts [0, 4599676359373071550, 4604179959000442046] [0, 4599676359373071550, 4604179959000442046] w .nilIface) := by
  have H := Lib.hid (fun W => aspect_any (r := r) W e1 e2 e3)
  have HR := Lib.hid hr
  clear e1 e2 e3 hr
  obtain ⟨i0, hi, hz0, hz1, hz2⟩ := info_parts info22
  go_enter Try.func105, Try.ntmps105
  go_wp2_with (first | (at_builtin; refine wpList_append_own _ rfl (.tmp 53) (.tmp 54) 59 rfl w.heap.size 22 i0 (.float .f64 0) 1 8 Try.underlying59 hi hz0 hz1 hz2 rfl (by decide) _ 0 [] rfl (World.ownsRow_nil _ _ _ _) ⟨w.heap.size, 0, none⟩ 3 3 [.float .f64 0, .float .f64 4599676359373071550, .float .f64 4604179959000442046] rfl rfl (new_cells w _ _) (fun u hu => by simp at hu; rcases hu with rfl | rfl | rfl <;> rfl) (by decide) (by decide) (by simp) ?_; intro v1 w1 ho1 hg1 _; have hb1 : Below w.heap.size w w1 := (below1 w _).grown hg1 (by simp) (fun k h => by cases h); obtain ⟨p, c1, rfl, hp, _⟩ := own_floats (L := [0, 4599676359373071550, 4604179959000442046]) ho1 rfl (by decide); have HB1 := Lib.hid hb1; have HP := Lib.hid hp; clear hb1 hp ho1 hg1) | (at_builtin; refine wpList_append_own _ rfl (.tmp 56) (.tmp 57) 59 rfl w.heap.size 22 i0 (.float .f64 0) 1 8 Try.underlying59 hi hz0 hz1 hz2 rfl (by decide) _ 0 [] rfl (World.ownsRow_nil _ _ _ _) ⟨w1.heap.size, 0, none⟩ 3 3 [.float .f64 0, .float .f64 4599676359373071550, .float .f64 4604179959000442046] rfl rfl (new_cells w1 _ _) (fun u hu => by simp at hu; rcases hu with rfl | rfl | rfl <;> rfl) (by decide) (by decide) (by have := HB1.out.size; simp; omega) ?_; intro v2 w2 ho2 hg2 _; have hb2 : Below w1.heap.size w1 w2 := (below1 w1 _).grown hg2 (by simp) (fun k h => by cases h); obtain ⟨q, c2, rfl, hq, _⟩ := own_floats (L := [0, 4599676359373071550, 4604179959000442046]) ho2 rfl (by decide); have HB2 : Hid (Below w.heap.size w w2) := Lib.hid (HB1.out.trans (hb2.mono HB1.out.size)); have HP2 := Lib.hid (HP.out.below hb2); have HQ := Lib.hid hq; obtain ⟨r0, r1, r2, r3, r4⟩ := HR.out.below HB2.out; clear hb2 hq ho2 hg2 HB1 HP) | (go_at_call 114; go_in) | (go_at_call 101; refine (H.out _).mono ?_; rintro e w3 ⟨rfl, hb3⟩))
  exact bodyPost_ret (v := .tuple #[.slice (some ⟨q, 0, none⟩) 3 c2, .slice (some ⟨p, 0, none⟩) 3 c1, .nilIface]) (by simp [results, Try.results105, go_sem]) rfl ⟨_, _, _, _, rfl, (HQ.out.below (below1 _ _)).below hb3, (HP2.out.below (below1 _ _)).below hb3, bel_trans hb3 (bel_alloc _ HB2.out)⟩

set_option maxRecDepth 100000 in
set_option maxHeartbeats 2000000 in
theorem ncuts_12_t {g a b c d x y r : Nat} (w : World) (hr : RectAt w g a b c d) (e1 : floatBits .sub .f64 c a = some x) (e2 : floatBits .sub .f64 d b = some y) (e3 : floatBits .quo .f64 x y = some r)
    (o : (FloatKind.f64.format.order r 4607182418800017408 == some Ordering.lt) = true) :
    Calls Try.prog 105 #[.int .i64 12, .pointer (some ⟨g, 0, none⟩)] w (Cuts [0, 4598175219545276416, 4602678819172646912, 4604930618986332160] [0, 4599676359373071550, 4604179959000442046] w .nilIface) := by
  have H := Lib.hid (fun W => aspect_any (r := r) W e1 e2 e3)
  have HR := Lib.hid hr
  clear e1 e2 e3 hr
  obtain ⟨i0, hi, hz0, hz1, hz2⟩ := info_parts info22
  go_enter Try.func105, Try.ntmps105
  go_wp2_with (first | (at_builtin; refine wpList_append_own _ rfl (.tmp 61) (.tmp 62) 59 rfl w.heap.size 22 i0 (.float .f64 0) 1 8 Try.underlying59 hi hz0 hz1 hz2 rfl (by decide) _ 0 [] rfl (World.ownsRow_nil _ _ _ _) ⟨w.heap.size, 0, none⟩ 4 4 [.float .f64 0, .float .f64 4598175219545276416, .float .f64 4602678819172646912, .float .f64 4604930618986332160] rfl rfl (new_cells w _ _) (fun u hu => by simp at hu; rcases hu with rfl | rfl | rfl | rfl <;> rfl) (by decide) (by decide) (by simp) ?_; intro v1 w1 ho1 hg1 _; have hb1 : Below w.heap.size w w1 := (below1 w _).grown hg1 (by simp) (fun k h => by cases h); obtain ⟨p, c1, rfl, hp, _⟩ := own_floats (L := [0, 4598175219545276416, 4602678819172646912, 4604930618986332160]) ho1 rfl (by decide); have HB1 := Lib.hid hb1; have HP := Lib.hid hp; clear hb1 hp ho1 hg1) | (at_builtin; refine wpList_append_own _ rfl (.tmp 64) (.tmp 65) 59 rfl w.heap.size 22 i0 (.float .f64 0) 1 8 Try.underlying59 hi hz0 hz1 hz2 rfl (by decide) _ 0 [] rfl (World.ownsRow_nil _ _ _ _) ⟨w1.heap.size, 0, none⟩ 3 3 [.float .f64 0, .float .f64 4599676359373071550, .float .f64 4604179959000442046] rfl rfl (new_cells w1 _ _) (fun u hu => by simp at hu; rcases hu with rfl | rfl | rfl <;> rfl) (by decide) (by decide) (by have := HB1.out.size; simp; omega) ?_; intro v2 w2 ho2 hg2 _; have hb2 : Below w1.heap.size w1 w2 := (below1 w1 _).grown hg2 (by simp) (fun k h => by cases h); obtain ⟨q, c2, rfl, hq, _⟩ := own_floats (L := [0, 4599676359373071550, 4604179959000442046]) ho2 rfl (by decide); have HB2 : Hid (Below w.heap.size w w2) := Lib.hid (HB1.out.trans (hb2.mono HB1.out.size)); have HP2 := Lib.hid (HP.out.below hb2); have HQ := Lib.hid hq; obtain ⟨r0, r1, r2, r3, r4⟩ := HR.out.below HB2.out; clear hb2 hq ho2 hg2 HB1 HP) | (go_at_call 114; go_in) | (go_at_call 101; refine (H.out _).mono ?_; rintro e w3 ⟨rfl, hb3⟩))
  exact bodyPost_ret (v := .tuple #[.slice (some ⟨p, 0, none⟩) 4 c1, .slice (some ⟨q, 0, none⟩) 3 c2, .nilIface]) (by simp [results, Try.results105, go_sem]) rfl ⟨_, _, _, _, rfl, (HP2.out.below (below1 _ _)).below hb3, (HQ.out.below (below1 _ _)).below hb3, bel_trans hb3 (bel_alloc _ HB2.out)⟩

set_option maxRecDepth 100000 in
set_option maxHeartbeats 2000000 in
theorem ncuts_12_f {g a b c d x y r : Nat} (w : World) (hr : RectAt w g a b c d) (e1 : floatBits .sub .f64 c a = some x) (e2 : floatBits .sub .f64 d b = some y) (e3 : floatBits .quo .f64 x y = some r)
    (o : (FloatKind.f64.format.order r 4607182418800017408 == some Ordering.lt) = false) :
    Calls Try.prog 105 #[.int .i64 12, .pointer (some ⟨g, 0, none⟩)] w (Cuts [0, 4599676359373071550, 4604179959000442046] [0, 4598175219545276416, 4602678819172646912, 4604930618986332160] w .nilIface) := by
  have H := Lib.hid (fun W => aspect_any (r := r) W e1 e2 e3)
  have HR := Lib.hid hr
  clear e1 e2 e3 hr
  obtain ⟨i0, hi, hz0, hz1, hz2⟩ := info_parts info22
  go_enter Try.func105, Try.ntmps105
  go_wp2_with (first | (at_builtin; refine wpList_append_own _ rfl (.tmp 61) (.tmp 62) 59 rfl w.heap.size 22 i0 (.float .f64 0) 1 8 Try.underlying59 hi hz0 hz1 hz2 rfl (by decide) _ 0 [] rfl (World.ownsRow_nil _ _ _ _) ⟨w.heap.size, 0, none⟩ 4 4 [.float .f64 0, .float .f64 4598175219545276416, .float .f64 4602678819172646912, .float .f64 4604930618986332160] rfl rfl (new_cells w _ _) (fun u hu => by simp at hu; rcases hu with rfl | rfl | rfl | rfl <;> rfl) (by decide) (by decide) (by simp) ?_; intro v1 w1 ho1 hg1 _; have hb1 : Below w.heap.size w w1 := (below1 w _).grown hg1 (by simp) (fun k h => by cases h); obtain ⟨p, c1, rfl, hp, _⟩ := own_floats (L := [0, 4598175219545276416, 4602678819172646912, 4604930618986332160]) ho1 rfl (by decide); have HB1 := Lib.hid hb1; have HP := Lib.hid hp; clear hb1 hp ho1 hg1) | (at_builtin; refine wpList_append_own _ rfl (.tmp 64) (.tmp 65) 59 rfl w.heap.size 22 i0 (.float .f64 0) 1 8 Try.underlying59 hi hz0 hz1 hz2 rfl (by decide) _ 0 [] rfl (World.ownsRow_nil _ _ _ _) ⟨w1.heap.size, 0, none⟩ 3 3 [.float .f64 0, .float .f64 4599676359373071550, .float .f64 4604179959000442046] rfl rfl (new_cells w1 _ _) (fun u hu => by simp at hu; rcases hu with rfl | rfl | rfl <;> rfl) (by decide) (by decide) (by have := HB1.out.size; simp; omega) ?_; intro v2 w2 ho2 hg2 _; have hb2 : Below w1.heap.size w1 w2 := (below1 w1 _).grown hg2 (by simp) (fun k h => by cases h); obtain ⟨q, c2, rfl, hq, _⟩ := own_floats (L := [0, 4599676359373071550, 4604179959000442046]) ho2 rfl (by decide); have HB2 : Hid (Below w.heap.size w w2) := Lib.hid (HB1.out.trans (hb2.mono HB1.out.size)); have HP2 := Lib.hid (HP.out.below hb2); have HQ := Lib.hid hq; obtain ⟨r0, r1, r2, r3, r4⟩ := HR.out.below HB2.out; clear hb2 hq ho2 hg2 HB1 HP) | (go_at_call 114; go_in) | (go_at_call 101; refine (H.out _).mono ?_; rintro e w3 ⟨rfl, hb3⟩))
  exact bodyPost_ret (v := .tuple #[.slice (some ⟨q, 0, none⟩) 3 c2, .slice (some ⟨p, 0, none⟩) 4 c1, .nilIface]) (by simp [results, Try.results105, go_sem]) rfl ⟨_, _, _, _, rfl, (HQ.out.below (below1 _ _)).below hb3, (HP2.out.below (below1 _ _)).below hb3, bel_trans hb3 (bel_alloc _ HB2.out)⟩

set_option maxRecDepth 100000 in
set_option maxHeartbeats 2000000 in
theorem ncuts_16_t {g a b c d x y r : Nat} (w : World) (hr : RectAt w g a b c d) (e1 : floatBits .sub .f64 c a = some x) (e2 : floatBits .sub .f64 d b = some y) (e3 : floatBits .quo .f64 x y = some r)
    (o : (FloatKind.f64.format.order r 4607182418800017408 == some Ordering.lt) = true) :
    Calls Try.prog 105 #[.int .i64 16, .pointer (some ⟨g, 0, none⟩)] w (Cuts [0, 4598175219545276416, 4602678819172646912, 4604930618986332160] [0, 4598175219545276416, 4602678819172646912, 4604930618986332160] w .nilIface) := by
  have H := Lib.hid (fun W => aspect_any (r := r) W e1 e2 e3)
  have HR := Lib.hid hr
  clear e1 e2 e3 hr
  obtain ⟨i0, hi, hz0, hz1, hz2⟩ := info_parts info22
  go_enter Try.func105, Try.ntmps105
  go_wp2_with (first | (at_builtin; refine wpList_append_own _ rfl (.tmp 69) (.tmp 70) 59 rfl w.heap.size 22 i0 (.float .f64 0) 1 8 Try.underlying59 hi hz0 hz1 hz2 rfl (by decide) _ 0 [] rfl (World.ownsRow_nil _ _ _ _) ⟨w.heap.size, 0, none⟩ 4 4 [.float .f64 0, .float .f64 4598175219545276416, .float .f64 4602678819172646912, .float .f64 4604930618986332160] rfl rfl (new_cells w _ _) (fun u hu => by simp at hu; rcases hu with rfl | rfl | rfl | rfl <;> rfl) (by decide) (by decide) (by simp) ?_; intro v1 w1 ho1 hg1 _; have hb1 : Below w.heap.size w w1 := (below1 w _).grown hg1 (by simp) (fun k h => by cases h); obtain ⟨p, c1, rfl, hp, _⟩ := own_floats (L := [0, 4598175219545276416, 4602678819172646912, 4604930618986332160]) ho1 rfl (by decide); have HB1 := Lib.hid hb1; have HP := Lib.hid hp; clear hb1 hp ho1 hg1) | (at_builtin; refine wpList_append_own _ rfl (.tmp 72) (.tmp 73) 59 rfl w.heap.size 22 i0 (.float .f64 0) 1 8 Try.underlying59 hi hz0 hz1 hz2 rfl (by decide) _ 0 [] rfl (World.ownsRow_nil _ _ _ _) ⟨w1.heap.size, 0, none⟩ 4 4 [.float .f64 0, .float .f64 4598175219545276416, .float .f64 4602678819172646912, .float .f64 4604930618986332160] rfl rfl (new_cells w1 _ _) (fun u hu => by simp at hu; rcases hu with rfl | rfl | rfl | rfl <;> rfl) (by decide) (by decide) (by have := HB1.out.size; simp; omega) ?_; intro v2 w2 ho2 hg2 _; have hb2 : Below w1.heap.size w1 w2 := (below1 w1 _).grown hg2 (by simp) (fun k h => by cases h); obtain ⟨q, c2, rfl, hq, _⟩ := own_floats (L := [0, 4598175219545276416, 4602678819172646912, 4604930618986332160]) ho2 rfl (by decide); have HB2 : Hid (Below w.heap.size w w2) := Lib.hid (HB1.out.trans (hb2.mono HB1.out.size)); have HP2 := Lib.hid (HP.out.below hb2); have HQ := Lib.hid hq; obtain ⟨r0, r1, r2, r3, r4⟩ := HR.out.below HB2.out; clear hb2 hq ho2 hg2 HB1 HP) | (go_at_call 114; go_in) | (go_at_call 101; refine (H.out _).mono ?_; rintro e w3 ⟨rfl, hb3⟩))
  exact bodyPost_ret (v := .tuple #[.slice (some ⟨p, 0, none⟩) 4 c1, .slice (some ⟨q, 0, none⟩) 4 c2, .nilIface]) (by simp [results, Try.results105, go_sem]) rfl ⟨_, _, _, _, rfl, (HP2.out.below (below1 _ _)).below hb3, (HQ.out.below (below1 _ _)).below hb3, bel_trans hb3 (bel_alloc _ HB2.out)⟩

set_option maxRecDepth 100000 in
set_option maxHeartbeats 2000000 in
theorem ncuts_16_f {g a b c d x y r : Nat} (w : World) (hr : RectAt w g a b c d) (e1 : floatBits .sub .f64 c a = some x) (e2 : floatBits .sub .f64 d b = some y) (e3 : floatBits .quo .f64 x y = some r)
    (o : (FloatKind.f64.format.order r 4607182418800017408 == some Ordering.lt) = false) :
    Calls Try.prog 105 #[.int .i64 16, .pointer (some ⟨g, 0, none⟩)] w (Cuts [0, 4598175219545276416, 4602678819172646912, 4604930618986332160] [0, 4598175219545276416, 4602678819172646912, 4604930618986332160] w .nilIface) := by
  have H := Lib.hid (fun W => aspect_any (r := r) W e1 e2 e3)
  have HR := Lib.hid hr
  clear e1 e2 e3 hr
  obtain ⟨i0, hi, hz0, hz1, hz2⟩ := info_parts info22
  go_enter Try.func105, Try.ntmps105
  go_wp2_with (first | (at_builtin; refine wpList_append_own _ rfl (.tmp 69) (.tmp 70) 59 rfl w.heap.size 22 i0 (.float .f64 0) 1 8 Try.underlying59 hi hz0 hz1 hz2 rfl (by decide) _ 0 [] rfl (World.ownsRow_nil _ _ _ _) ⟨w.heap.size, 0, none⟩ 4 4 [.float .f64 0, .float .f64 4598175219545276416, .float .f64 4602678819172646912, .float .f64 4604930618986332160] rfl rfl (new_cells w _ _) (fun u hu => by simp at hu; rcases hu with rfl | rfl | rfl | rfl <;> rfl) (by decide) (by decide) (by simp) ?_; intro v1 w1 ho1 hg1 _; have hb1 : Below w.heap.size w w1 := (below1 w _).grown hg1 (by simp) (fun k h => by cases h); obtain ⟨p, c1, rfl, hp, _⟩ := own_floats (L := [0, 4598175219545276416, 4602678819172646912, 4604930618986332160]) ho1 rfl (by decide); have HB1 := Lib.hid hb1; have HP := Lib.hid hp; clear hb1 hp ho1 hg1) | (at_builtin; refine wpList_append_own _ rfl (.tmp 72) (.tmp 73) 59 rfl w.heap.size 22 i0 (.float .f64 0) 1 8 Try.underlying59 hi hz0 hz1 hz2 rfl (by decide) _ 0 [] rfl (World.ownsRow_nil _ _ _ _) ⟨w1.heap.size, 0, none⟩ 4 4 [.float .f64 0, .float .f64 4598175219545276416, .float .f64 4602678819172646912, .float .f64 4604930618986332160] rfl rfl (new_cells w1 _ _) (fun u hu => by simp at hu; rcases hu with rfl | rfl | rfl | rfl <;> rfl) (by decide) (by decide) (by have := HB1.out.size; simp; omega) ?_; intro v2 w2 ho2 hg2 _; have hb2 : Below w1.heap.size w1 w2 := (below1 w1 _).grown hg2 (by simp) (fun k h => by cases h); obtain ⟨q, c2, rfl, hq, _⟩ := own_floats (L := [0, 4598175219545276416, 4602678819172646912, 4604930618986332160]) ho2 rfl (by decide); have HB2 : Hid (Below w.heap.size w w2) := Lib.hid (HB1.out.trans (hb2.mono HB1.out.size)); have HP2 := Lib.hid (HP.out.below hb2); have HQ := Lib.hid hq; obtain ⟨r0, r1, r2, r3, r4⟩ := HR.out.below HB2.out; clear hb2 hq ho2 hg2 HB1 HP) | (go_at_call 114; go_in) | (go_at_call 101; refine (H.out _).mono ?_; rintro e w3 ⟨rfl, hb3⟩))
  exact bodyPost_ret (v := .tuple #[.slice (some ⟨q, 0, none⟩) 4 c2, .slice (some ⟨p, 0, none⟩) 4 c1, .nilIface]) (by simp [results, Try.results105, go_sem]) rfl ⟨_, _, _, _, rfl, (HQ.out.below (below1 _ _)).below hb3, (HP2.out.below (below1 _ _)).below hb3, bel_trans hb3 (bel_alloc _ HB2.out)⟩

end Go.Proofs.Ytooghncdhjdcpaa
