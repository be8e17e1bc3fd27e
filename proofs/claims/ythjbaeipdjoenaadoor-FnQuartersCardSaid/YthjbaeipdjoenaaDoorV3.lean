/-
The law FnQuarters holds: the row (its listed variables: the tables of the text laid), and its tied card.
-/
import Derived.Test.YthjbaeipdjoenaaDoorV1
import Derived.Test.YthjbaeipdjoenaaDoorW3
import Derived.Test.YthjbaeipdjoenaaDoorQ1
import Derived.SevenTiedAt
import Derived.OpenVars
namespace Go.Proofs.YthjbaeipdjoenaaDoor.fnQuarters
open Go.ChangeShapes Go.WideShapes Go.ChangeAt Go.WideMaps Go.WideElems Go.RowKit Go.Joins Fl

theorem degQ : (List.range 4).all (fun k => degOk (90 * (k : Int))) = true := by decide +kernel
theorem law_all (n : Int) (dx dy px py ra rb rc rd : Nat) (w : World) (hV : Vars3 w) :
    Calls Tryd.prog 4 #[.int .i64 n, .float .f64 dx, .float .f64 dy, .agg #[.float .f64 px, .float .f64 py], .agg #[.float .f64 ra, .float .f64 rb, .float .f64 rc, .float .f64 rd]] w fun e w' => e = .returned (.bool true) ∧ Below w.heap.size w w' := by
  by_cases h1 : n < 0
  · exact quarters_far n dx dy px py ra rb rc rd w (.inl h1)
  by_cases h2 : 3 < n
  · exact quarters_far n dx dy px py ra rb rc rd w (.inr (.inl h2))
  by_cases hs : [dx, dy, px, py].all smallB = true
  · by_cases hp : properB ra rb rc rd = true
    · obtain ⟨k, rfl⟩ : ∃ k : Nat, n = k := ⟨n.toNat, by omega⟩
      have hk : k < 4 := by omega
      have h := hs
      simp only [List.all_cons, List.all_nil, Bool.and_true, Bool.and_eq_true] at h
      obtain ⟨k1, k2, k3, k4⟩ := h
      obtain ⟨x, s, c, q, a, b, T⟩ := turn_of (List.all_eq_true.1 degQ k (List.mem_range.2 hk))
      obtain ⟨m, s1, m2, s2, M1, M2, ax, ay, a1, a2, a3, a4, a5, a6, ex, ey, A1, A2, X, Y, N1, N2⟩ := quarters_words hk T (smallB_true k1) (smallB_true k2) (smallB_true k3) (smallB_true k4)
      exact quarters_near k hk T dx dy px py ra rb rc rd m s1 m2 s2 ax ay a1 a2 a3 a4 a5 a6 ex ey A1 A2 X Y N1 N2 M1 M2 w hV hs hp
    · exact quarters_far n dx dy px py ra rb rc rd w (.inr (.inr (.inr (by simpa using hp))))
  · exact quarters_far n dx dy px py ra rb rc rd w (.inr (.inr (.inl (by simpa using hs))))

set_option maxRecDepth 100000 in
theorem lifted (os : Os) (started : os.Started) (H : Type) (enc : TypeId × Value → H) :
    ReturnsInHanded {} Tryd.checked os 4 .any (fun w args => (Rows.fnQuartersSpec.pre enc Tryd.prog Tryd.f4 [] false w args ∧ laidMetH Tryd.prog Rows.fnQuartersRow.laid w) ∧ sizedMet enc Tryd.prog Tryd.f4 (OpenSpec.ofChange Rows.fnQuartersSpec) false w args)
      (Rows.fnQuartersSpec.post enc Tryd.prog Tryd.f4 false true false false) := by
  refine returnsInHanded_of_change_and (C := Tryd.checked) (X := fun w _ => laidMetH Tryd.prog Rows.fnQuartersRow.laid w) (fun _ _ _ hh h => h.of_heap hh) own started (by kernel_rfl) Tryd.func4
    (ChangeSpec.witness_shaped (enc := enc) (C := Tryd.checked) (os := os) (X := fun w _ => laidMetH Tryd.prog Rows.fnQuartersRow.laid w) false (World.doorLaid Tryd.prog 400 os) #[.int .i64 0, .float .f64 0, .float .f64 0, .agg #[.float .f64 0, .float .f64 0], .agg #[.float .f64 0, .float .f64 0, .float .f64 0, .float .f64 0]] 8 rfl (World.shaped_of_RefB (by kernel_rfl) (by kernel_rfl)) (by kernel_rfl) (by kernel_rfl) (by kernel_rfl) (door_met4 os _)) ?_
  intro W base args ds gs before hval0 hW _ _ hL _
  have hval : ∀ (j : Nat) t v, Tryd.f4.params[j]? = some t → args[j]? = some v → Value.okWide Tryd.prog W .any base t v := hval0
  have hW' := hW
  obtain ⟨p, q, hA0, hV0, rfl, hfz, hnd⟩ := hW
  have hA : DataW.TrodAll enc Tryd.prog W 0 (fun _ => true) true Tryd.f4.params.toList args.toList ds p := hA0
  have hV : DataW.TrodVars enc Tryd.prog W (fun _ => true) ["given.example/pub-quirewright/pub/pdfcpu/pkg/pdfcpu/matrix.IdentMatrix"] gs q := hV0
  rw [Tryd.params4] at hA hval
  obtain ⟨v0, vs0, d0, ds0, p0, q0, hargs, rfl, rfl, h0, r0⟩ := trodAll_cons hA
  obtain ⟨v1, vs1, d1, ds1, p1, q1, rfl, rfl, rfl, h1, r1⟩ := trodAll_cons r0
  obtain ⟨v2, vs2, d2, ds2, p2, q2, rfl, rfl, rfl, h2, r2⟩ := trodAll_cons r1
  obtain ⟨v3, vs3, d3, ds3, p3, q3, rfl, rfl, rfl, h3, r3⟩ := trodAll_cons r2
  obtain ⟨v4, vs4, d4, ds4, p4, q4, rfl, rfl, rfl, h4, r4⟩ := trodAll_cons r3
  obtain ⟨rfl, rfl, rfl⟩ := trodAll_nil r4
  obtain rfl : args = #[v0, v1, v2, v3, v4] := by cases args; simp_all
  have k0 := h0
  have lt0 : ∀ x ∈ p0, x.block < W.heap.size := by obtain ⟨m, hm⟩ := k0; exact DataW.trod_lt m _ _ _ hm
  obtain ⟨x0, rfl, e0, _, w0⟩ := open_int Tryd.underlying3 (hval 0 3 v0 rfl rfl) h0
  have k1 := h1
  have lt1 : ∀ x ∈ p1, x.block < W.heap.size := by obtain ⟨m, hm⟩ := k1; exact DataW.trod_lt m _ _ _ hm
  obtain ⟨x1, rfl, e1, _, _⟩ := open_float Tryd.underlying22 (hval 1 22 v1 rfl rfl) h1
  have k2 := h2
  have lt2 : ∀ x ∈ p2, x.block < W.heap.size := by obtain ⟨m, hm⟩ := k2; exact DataW.trod_lt m _ _ _ hm
  obtain ⟨x2, rfl, e2, _, _⟩ := open_float Tryd.underlying22 (hval 2 22 v2 rfl rfl) h2
  have k3 := h3
  have lt3 : ∀ x ∈ p3, x.block < W.heap.size := by obtain ⟨m, hm⟩ := k3; exact DataW.trod_lt m _ _ _ hm
  obtain ⟨x3a, x3b, rfl⟩ := open_pair (hval 3 32 v3 rfl rfl) h3
  have k4 := h4
  have lt4 : ∀ x ∈ p4, x.block < W.heap.size := by obtain ⟨m, hm⟩ := k4; exact DataW.trod_lt m _ _ _ hm
  obtain ⟨x4a, x4b, x4c, x4d, rfl⟩ := open_rect (hval 4 34 v4 rfl rfl) h4
  obtain ⟨g1, rfl⟩ : ∃ g, gs = [g] := by obtain ⟨_, _, _, _, d, _, h, _⟩ := trodVars_one hV; exact ⟨d, h⟩
  clear hA0 hV0 hval0
  refine (law_all x0 x1 x2 x3a x3b x4a x4b x4c x4d W (of_laid4 hL)).mono fun e W' ⟨he, bel⟩ => ?_
  subst he
  exact ⟨_, rfl, _, _, _, [], _, _, hW', trodAll_mk1 (shut_bool Tryd.underlying4 _), (trodAll_cons_mk (Below.trod laidOut (by kernel_rfl) (of_decide_eq_true (by kernel_rfl)) k0 bel lt0) (trodAll_cons_mk (Below.trod laidOut (by kernel_rfl) (of_decide_eq_true (by kernel_rfl)) k1 bel lt1) (trodAll_cons_mk (Below.trod laidOut (by kernel_rfl) (of_decide_eq_true (by kernel_rfl)) k2 bel lt2) (trodAll_cons_mk (Below.trod laidOut (by kernel_rfl) (of_decide_eq_true (by kernel_rfl)) k3 bel lt3) (trodAll_cons_mk (Below.trod laidOut (by kernel_rfl) (of_decide_eq_true (by kernel_rfl)) k4 bel lt4) trodAll_mk0))))), bel.trodVars laidOut rowed hV, bel.frame _, fun h => by cases h⟩

theorem row_proved : Rows.FnQuartersSaid :=
  OpenClaim.holds_of_wide 4 Tryd.f4 rfl rfl rfl rfl rfl rfl rfl ⟨rfl, rfl, rfl, rfl, rfl⟩ rfl rfl rfl rfl rfl (by kernel_rfl) Tryd.func4 (by kernel_rfl)
    (of_decide_eq_true (by kernel_rfl)) (by unfold Func.isWrapper; first | (rw [if_pos (by decide +kernel)]; kernel_rfl) | (rw [if_neg (by decide +kernel)]; exact ⟨rfl, rfl⟩))
    (fun os started H enc _ => lifted os started H enc)

/-- The statement: the tied card. -/
theorem proved : Rows.FnQuartersCardSaid :=
  Claim7.holds_tied_plain_at .later [] [.data, .data, .data, .data] true (true, "9b283d2acde3cd68ab9cfb046d3b6f2e8c9a51cbc5867a4a9232d8c9be8a19c3") false
    row_proved (fun _ h => by cases h) (by kernel_rfl) (fun _ h => by cases h) fnQuarters_row_tie rfl ⟨rfl, rfl⟩ (by kernel_rfl) rfl
    (fun f fn hf hfn => by
      obtain rfl : f = 4 := Option.some.inj ((show Tryd.prog.funcNamed "given.example/pub-quirewright/laws.FnQuarters" = some 4 by kernel_rfl).symm.trans hf) |>.symm
      obtain rfl : fn = Tryd.f4 := (Option.some.inj (Tryd.func4.symm.trans hfn)).symm
      exact ⟨by kernel_rfl, fun j t ht => by
        rw [Tryd.params4] at ht
        have hm : t ∈ [3, 22, 22, 32, 34] := by simpa using Array.mem_of_getElem? ht
        have hall : ([3, 22, 22, 32, 34].all fun u => !Tryd.prog.wantsStandIn u) = true := by kernel_rfl
        exact (show Tryd.prog.wantsStandIn t = false by simpa using List.all_eq_true.1 hall t hm)⟩)
    (by kernel_rfl)
end Go.Proofs.YthjbaeipdjoenaaDoor.fnQuarters
