/-
The law FnHexColor holds: the row (its listed variables are not read on the way), and its tied card.
-/
import Derived.Test.YtakckfghiaoonaaDoorC5
import Derived.Test.YtakckfghiaoonaaDoorCards
import Derived.Test.YtakckfghiaoonaaDoorTie
import Derived.ProofKit
import Derived.SevenTiedAt
import Derived.LaidMore
import Derived.Lay
import Derived.OpenShut
import Derived.ChangeVars
import Derived.OpenVars
import Derived.Stop.Joined
namespace Go.Proofs.YtakckfghiaoonaaDoor.fnHexColor
open Go.ChangeShapes Go.WideShapes Go.ChangeAt Go.WideMaps Go.WideElems Go.RowKit Go.Proofs.YtakckfghiaoonaaDoorW.PrintWords

theorem own : ownKnob Tryd.prog.godebug = none := by kernel_rfl
abbrev nine : List String := ["given.example/pub-quirewright/pub/pdfcpu/pkg/pdfcpu/color.Black", "given.example/pub-quirewright/pub/pdfcpu/pkg/pdfcpu/color.DarkGray", "given.example/pub-quirewright/pub/pdfcpu/pkg/pdfcpu/color.Gray", "given.example/pub-quirewright/pub/pdfcpu/pkg/pdfcpu/color.LightGray", "given.example/pub-quirewright/pub/pdfcpu/pkg/pdfcpu/color.White", "given.example/pub-quirewright/pub/pdfcpu/pkg/pdfcpu/color.Red", "given.example/pub-quirewright/pub/pdfcpu/pkg/pdfcpu/color.Green", "given.example/pub-quirewright/pub/pdfcpu/pkg/pdfcpu/color.Blue", "given.example/pub-quirewright/pub/pdfcpu/pkg/pdfcpu/color.ErrInvalidColor"]
theorem rowed : varsRowed Tryd.prog nine = true := by kernel_rfl
theorem vars_len {H : Type} {enc : TypeId × Value → H} {P : Program} {W : World} {ok : Nat → Bool} : ∀ {ns : List String} {gs : List (DataW H)} {ps : List MemPlace}, DataW.TrodVars enc P W ok ns gs ps → gs.length = ns.length
  | [], [], _, _ => rfl
  | [], _ :: _, _, h => h.elim
  | _ :: _, [], _, h => h.elim
  | _ :: _, _ :: _, _, ⟨_, _, _, _, _, _, _, _, _, _, h, _⟩ => by simp [vars_len h]
theorem laidOut : laidOutB Tryd.prog = true := by kernel_rfl

set_option maxRecDepth 100000 in
theorem lifted (os : Os) (started : os.Started) (H : Type) (enc : TypeId × Value → H) :
    ReturnsInHanded {} Tryd.checked os 4 .any (fun w args => (Rows.fnHexColorSpec.pre enc Tryd.prog Tryd.f4 [] false w args ∧ laidMetH Tryd.prog Rows.fnHexColorRow.laid w) ∧ sizedMet enc Tryd.prog Tryd.f4 (OpenSpec.ofChange Rows.fnHexColorSpec) false w args)
      (Rows.fnHexColorSpec.post enc Tryd.prog Tryd.f4 false true false false) := by
  refine returnsInHanded_of_change_and (C := Tryd.checked) (X := fun w _ => laidMetH Tryd.prog Rows.fnHexColorRow.laid w) (fun _ _ _ hh h => h.of_heap hh) own started (by kernel_rfl) Tryd.func4
    (ChangeSpec.witness_shaped (enc := enc) (C := Tryd.checked) (os := os) (X := fun w _ => laidMetH Tryd.prog Rows.fnHexColorRow.laid w) false (World.laidAll Tryd.prog os Rows.fnHexColorRow.laid) #[.int .i64 0, .bool false] 8 (World.laidAll_os _ _ _)
      (World.shaped_of_ZipB (by kernel_rfl) (by kernel_rfl)) (by kernel_rfl) (by kernel_rfl) (by kernel_rfl)
      (by rw [MakeChecks.laidMetH_plain _ _ _ (by kernel_rfl)]; exact laidMet_laidAll _ (by kernel_rfl) (by kernel_rfl))) ?_
  intro W base args ds gs before hval0 hW _ _ _ _
  have hval : ∀ (j : Nat) t v, Tryd.f4.params[j]? = some t → args[j]? = some v → Value.okWide Tryd.prog W .any base t v := hval0
  have hW' := hW
  obtain ⟨p, q, hA0, hV, rfl, hfz, hnd⟩ := hW
  have hA : DataW.TrodAll enc Tryd.prog W 0 (fun _ => true) true Tryd.f4.params.toList args.toList ds p := hA0
  rw [Tryd.params4] at hA hval
  obtain ⟨v0, v1, d0, d1, p0, p1, rfl, rfl, rfl, h0, h1⟩ := trodAll_two hA
  have hV1 : DataW.TrodVars enc Tryd.prog W (fun _ => true) nine gs q := hV
  have hlen := vars_len hV1
  obtain ⟨g1, g2, g3, g4, g5, g6, g7, g8, g9, rfl⟩ : ∃ g1 g2 g3 g4 g5 g6 g7 g8 g9, gs = [g1, g2, g3, g4, g5, g6, g7, g8, g9] := by
    match gs, hlen with
    | [g1, g2, g3, g4, g5, g6, g7, g8, g9], _ => exact ⟨g1, g2, g3, g4, g5, g6, g7, g8, g9, rfl⟩
  obtain ⟨x0, rfl, rfl, rfl, w0⟩ := open_int Tryd.underlying3 (hval 0 3 v0 rfl rfl) h0
  obtain ⟨x1, rfl, rfl, rfl⟩ := open_bool Tryd.underlying4 (hval 1 4 v1 rfl rfl) h1
  clear hA0 hval0
  refine (law_calls x0 x1 W).mono fun e W' ⟨he, bel⟩ => ?_
  subst he
  exact ⟨_, rfl, _, _, _, [], [], q, hW', trodAll_mk1 (shut_bool Tryd.underlying4 _), trodAll_mk2 (shut_int Tryd.underlying3 w0) (shut_bool Tryd.underlying4 _), bel.trodVars laidOut rowed hV1, bel.frame _, fun h => by cases h⟩

theorem row_proved : Rows.FnHexColorSaid :=
  OpenClaim.holds_of_wide 4 Tryd.f4 rfl rfl rfl rfl rfl rfl rfl ⟨rfl, rfl, rfl, rfl, rfl⟩ rfl rfl rfl rfl rfl (by kernel_rfl) Tryd.func4 (by kernel_rfl)
    (of_decide_eq_true (by kernel_rfl)) (by unfold Func.isWrapper; first | (rw [if_pos (by decide +kernel)]; kernel_rfl) | (rw [if_neg (by decide +kernel)]; exact ⟨rfl, rfl⟩))
    (fun os started H enc _ => lifted os started H enc)

/-- The statement: the tied card. -/
theorem proved : Rows.FnHexColorCardSaid :=
  Claim7.holds_tied_plain_at .later [] [.data, .data, .widerDeep, .widerDeep, .data, .data, .data, .data, .data, .sentinel, .sentinel, .sentinel, .data, .data, .data, .data, .data, .data, .data, .data, .sentinel, .pinned, .pinned] true (true, "f963ad00f69cae1b4bcaed769d77a82b41ea2f786de56a85c697bf2b921aab59") true
    row_proved (fun _ h => by cases h) (by kernel_rfl) (fun _ h => by cases h) fnHexColor_row_tie rfl ⟨rfl, rfl⟩ (by kernel_rfl) rfl
    (fun f fn hf hfn => by
      obtain rfl : f = 4 := Option.some.inj ((show Tryd.prog.funcNamed "given.example/pub-quirewright/laws.FnHexColor" = some 4 by kernel_rfl).symm.trans hf) |>.symm
      obtain rfl : fn = Tryd.f4 := (Option.some.inj (Tryd.func4.symm.trans hfn)).symm
      exact ⟨by kernel_rfl, fun j t ht => by
        rw [Tryd.params4] at ht
        have hm : t ∈ [3, 4] := by simpa using Array.mem_of_getElem? ht
        have hall : ([3, 4].all fun u => !Tryd.prog.wantsStandIn u) = true := by kernel_rfl
        exact (show Tryd.prog.wantsStandIn t = false by simpa using List.all_eq_true.1 hall t hm)⟩)
    (by kernel_rfl)
end Go.Proofs.YtakckfghiaoonaaDoor.fnHexColor
