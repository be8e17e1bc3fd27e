/-
The law FnPlaced holds: the row (its listed variable: the unit matrix of the text laid), and its tied card.
-/
import Derived.Test.YthjbaeipdjoenaaDoorP2
import Derived.Test.YthjbaeipdjoenaaDoorP0
namespace Go.Proofs.YthjbaeipdjoenaaDoor.fnPlaced
open Go.ChangeShapes Go.WideShapes Go.ChangeAt Go.WideMaps Go.WideElems Go.RowKit Fl

theorem door_met (os : Os) (args : Array Value) : laidMetH Tryd.prog Rows.fnPlacedRow.laid ((World.doorLaid Tryd.prog 400 os).forCall (fun _ _ => 0) ⟨#[], args, []⟩).memory :=
  laidMetH_of_parts3 (fuel := 8) (laidMet_of_run' 8 (by kernel_rfl) (by kernel_rfl)) (by kernel_rfl) (by kernel_rfl)

theorem of_laid {W : World} (h : laidMetH Tryd.prog Rows.fnPlacedRow.laid W) : Ident W := by
  rw [MakeChecks.laidMetH_plain _ _ _ (by kernel_rfl)] at h
  obtain ⟨ps, ⟨g0, t0, cs0, f0, p0, q0, hg0, ht0, hv0, hd0, _, _⟩, _, _⟩ := h
  obtain rfl := Option.some.inj (tIdent.symm.trans (Option.some.inj (gIdent.symm.trans hg0) ▸ ht0))
  exact ident_of hv0 hd0

theorem laidOut : laidOutB Tryd.prog = true := by kernel_rfl
theorem rowed : varsRowed Tryd.prog ["given.example/pub-quirewright/pub/pdfcpu/pkg/pdfcpu/matrix.IdentMatrix"] = true := by kernel_rfl
theorem heap_pos {W : World} (h : Ident W) : 0 < W.heap.size := by
  have := h 0 (by omega)
  unfold World.cell? at this
  by_cases e : 0 < W.heap.size
  · exact e
  · rw [Array.getElem?_eq_none (by omega)] at this
    simp at this

theorem law_all (a b c d e f : Nat) (w : World) (hI : Ident w) :
    Calls Tryd.prog 3 #[.float .f64 a, .float .f64 b, .float .f64 c, .float .f64 d, .float .f64 e, .float .f64 f] w fun e w' => e = .returned (.bool true) ∧ Below w.heap.size w w' := by
  by_cases hv : [a, b, c, d, e, f].all smallB = true
  · have h := hv
    simp only [List.all_cons, List.all_nil, Bool.and_true, Bool.and_eq_true] at h
    obtain ⟨h1, h2, h3, h4, h5, h6⟩ := h
    obtain ⟨m, s, m2, s2, k1, k2, k3⟩ := placed_words (smallB_true h1) (smallB_true h2) (smallB_true h3) (smallB_true h4) (smallB_true h5) (smallB_true h6)
    exact law_near a b c d e f m s m2 s2 k1 k2 k3 w hI (heap_pos hI) hv
  · exact law_far a b c d e f w (by simpa using hv)

set_option maxRecDepth 100000 in
theorem lifted (os : Os) (started : os.Started) (H : Type) (enc : TypeId × Value → H) :
    ReturnsInHanded {} Tryd.checked os 3 .any (fun w args => (Rows.fnPlacedSpec.pre enc Tryd.prog Tryd.f3 [] false w args ∧ laidMetH Tryd.prog Rows.fnPlacedRow.laid w) ∧ sizedMet enc Tryd.prog Tryd.f3 (OpenSpec.ofChange Rows.fnPlacedSpec) false w args)
      (Rows.fnPlacedSpec.post enc Tryd.prog Tryd.f3 false true false false) := by
  refine returnsInHanded_of_change_and (C := Tryd.checked) (X := fun w _ => laidMetH Tryd.prog Rows.fnPlacedRow.laid w) (fun _ _ _ hh h => h.of_heap hh) own started (by kernel_rfl) Tryd.func3
    (ChangeSpec.witness_shaped (enc := enc) (C := Tryd.checked) (os := os) (X := fun w _ => laidMetH Tryd.prog Rows.fnPlacedRow.laid w) false (World.doorLaid Tryd.prog 400 os) #[.float .f64 0, .float .f64 0, .float .f64 0, .float .f64 0, .float .f64 0, .float .f64 0] 8 rfl (World.shaped_of_RefB (by kernel_rfl) (by kernel_rfl)) (by kernel_rfl) (by kernel_rfl) (by kernel_rfl) (door_met os _)) ?_
  intro W base args ds gs before hval0 hW _ _ hL _
  have hval : ∀ (j : Nat) t v, Tryd.f3.params[j]? = some t → args[j]? = some v → Value.okWide Tryd.prog W .any base t v := hval0
  have hW' := hW
  obtain ⟨p, q, hA0, hV0, rfl, hfz, hnd⟩ := hW
  have hA : DataW.TrodAll enc Tryd.prog W 0 (fun _ => true) true Tryd.f3.params.toList args.toList ds p := hA0
  have hV : DataW.TrodVars enc Tryd.prog W (fun _ => true) ["given.example/pub-quirewright/pub/pdfcpu/pkg/pdfcpu/matrix.IdentMatrix"] gs q := hV0
  rw [Tryd.params3] at hA hval
  obtain ⟨v0, vs0, d0, ds0, p0, q0, hargs, rfl, rfl, h0, r0⟩ := trodAll_cons hA
  obtain ⟨v1, vs1, d1, ds1, p1, q1, rfl, rfl, rfl, h1, r1⟩ := trodAll_cons r0
  obtain ⟨v2, vs2, d2, ds2, p2, q2, rfl, rfl, rfl, h2, r2⟩ := trodAll_cons r1
  obtain ⟨v3, vs3, d3, ds3, p3, q3, rfl, rfl, rfl, h3, r3⟩ := trodAll_cons r2
  obtain ⟨v4, vs4, d4, ds4, p4, q4, rfl, rfl, rfl, h4, r4⟩ := trodAll_cons r3
  obtain ⟨v5, vs5, d5, ds5, p5, q5, rfl, rfl, rfl, h5, r5⟩ := trodAll_cons r4
  obtain ⟨rfl, rfl, rfl⟩ := trodAll_nil r5
  obtain rfl : args = #[v0, v1, v2, v3, v4, v5] := by cases args; simp_all
  obtain ⟨x0, rfl, rfl, rfl, w0⟩ := open_float Tryd.underlying22 (hval 0 22 v0 rfl rfl) h0
  obtain ⟨x1, rfl, rfl, rfl, w1⟩ := open_float Tryd.underlying22 (hval 1 22 v1 rfl rfl) h1
  obtain ⟨x2, rfl, rfl, rfl, w2⟩ := open_float Tryd.underlying22 (hval 2 22 v2 rfl rfl) h2
  obtain ⟨x3, rfl, rfl, rfl, w3⟩ := open_float Tryd.underlying22 (hval 3 22 v3 rfl rfl) h3
  obtain ⟨x4, rfl, rfl, rfl, w4⟩ := open_float Tryd.underlying22 (hval 4 22 v4 rfl rfl) h4
  obtain ⟨x5, rfl, rfl, rfl, w5⟩ := open_float Tryd.underlying22 (hval 5 22 v5 rfl rfl) h5
  obtain ⟨g1, rfl⟩ : ∃ g, gs = [g] := by obtain ⟨_, _, _, _, d, _, h, _⟩ := trodVars_one hV; exact ⟨d, h⟩
  clear hA0 hV0 hval0
  refine (law_all x0 x1 x2 x3 x4 x5 W (of_laid hL)).mono fun e W' ⟨he, bel⟩ => ?_
  subst he
  exact ⟨_, rfl, _, _, _, [], _, _, hW', trodAll_mk1 (shut_bool Tryd.underlying4 _), (trodAll_cons_mk (shut_float Tryd.underlying22 w0) (trodAll_cons_mk (shut_float Tryd.underlying22 w1) (trodAll_cons_mk (shut_float Tryd.underlying22 w2) (trodAll_cons_mk (shut_float Tryd.underlying22 w3) (trodAll_cons_mk (shut_float Tryd.underlying22 w4) (trodAll_cons_mk (shut_float Tryd.underlying22 w5) trodAll_mk0)))))), bel.trodVars laidOut rowed hV, bel.frame _, fun h => by cases h⟩

theorem row_proved : Rows.FnPlacedSaid :=
  OpenClaim.holds_of_wide 3 Tryd.f3 rfl rfl rfl rfl rfl rfl rfl ⟨rfl, rfl, rfl, rfl, rfl⟩ rfl rfl rfl rfl rfl (by kernel_rfl) Tryd.func3 (by kernel_rfl)
    (of_decide_eq_true (by kernel_rfl)) (by unfold Func.isWrapper; first | (rw [if_pos (by decide +kernel)]; kernel_rfl) | (rw [if_neg (by decide +kernel)]; exact ⟨rfl, rfl⟩))
    (fun os started H enc _ => lifted os started H enc)

/-- The statement: the tied card. -/
theorem proved : Rows.FnPlacedCardSaid :=
  Claim7.holds_tied_plain_at .later [] [.data] true (true, "9b283d2acde3cd68ab9cfb046d3b6f2e8c9a51cbc5867a4a9232d8c9be8a19c3") false
    row_proved (fun _ h => by cases h) (by kernel_rfl) (fun _ h => by cases h) fnPlaced_row_tie rfl ⟨rfl, rfl⟩ (by kernel_rfl) rfl
    (fun f fn hf hfn => by
      obtain rfl : f = 3 := Option.some.inj ((show Tryd.prog.funcNamed "given.example/pub-quirewright/laws.FnPlaced" = some 3 by kernel_rfl).symm.trans hf) |>.symm
      obtain rfl : fn = Tryd.f3 := (Option.some.inj (Tryd.func3.symm.trans hfn)).symm
      exact ⟨by kernel_rfl, fun j t ht => by
        rw [Tryd.params3] at ht
        have hm : t ∈ [22, 22, 22, 22, 22, 22] := by simpa using Array.mem_of_getElem? ht
        have hall : ([22, 22, 22, 22, 22, 22].all fun u => !Tryd.prog.wantsStandIn u) = true := by kernel_rfl
        exact (show Tryd.prog.wantsStandIn t = false by simpa using List.all_eq_true.1 hall t hm)⟩)
    (by kernel_rfl)
end Go.Proofs.YthjbaeipdjoenaaDoor.fnPlaced
