/-
The law FnSafe holds: the row (its listed variable: a sentinel of the text laid), and its tied card.
-/
import Derived.Test.YtlahbaolbgfmjaaDoorS3
import Derived.Test.YtlahbaolbgfmjaaDoorCards
import Derived.Test.YtlahbaolbgfmjaaDoorTie
import Derived.SevenTiedAt
import Derived.Stop.LaidErr
import Derived.LaidMore
import Derived.OpenShut
import Derived.ChangeVars
import Derived.Stop.Joined
namespace Go.Proofs.YtlahbaolbgfmjaaDoor.fnSafe
open Go.ChangeShapes Go.WideShapes Go.ChangeAt Go.WideMaps Go.WideElems Go.RowKit

theorem own : ownKnob Tryd.prog.godebug = none := by kernel_rfl
theorem gErr : Tryd.prog.globalNamed "given.example/pub-quirewright/pub/pdfcpu/pkg/pdfcpu/safemath.errIntegerOverflow" = some 0 := by kernel_rfl
theorem tErr : (Tryd.prog.globals[0]?).map (·.type) = some 30 := by kernel_rfl
theorem cells54 : Tryd.prog.cellsOf 54 = 1 := by kernel_rfl
theorem cells9 : Tryd.prog.cellsOf 9 = 1 := by kernel_rfl
theorem star : "*" ++ "errors.errorString" = "*errors.errorString" := by decide
theorem row52 (u : TypeId) (h : Tryd.prog.typeName? 3 u = some "*errors.errorString") : u = 52 :=
  typeName_ptr_named (nm := "errors.errorString") (by rw [star]; kernel_rfl) (by kernel_rfl) (by decide) u (by rw [star]; exact h)

theorem door_met (os : Os) (args : Array Value) : laidMetH Tryd.prog Rows.fnSafeRow.laid ((World.doorLaid Tryd.prog 400 os).forCall (fun _ _ => 0) ⟨#[], args, []⟩).memory :=
  laidMetH_of_parts3 (fuel := 8) (laidMet_of_run' 8 (by kernel_rfl) (by kernel_rfl)) (by kernel_rfl) (by kernel_rfl)

/-- What the listed variable holds. -/
theorem of_laid {W : World} (h : laidMetH Tryd.prog Rows.fnSafeRow.laid W) : ∃ a : Addr, W.var? Tryd.prog "given.example/pub-quirewright/pub/pdfcpu/pkg/pdfcpu/safemath.errIntegerOverflow" = some #[.iface 52 (.pointer (some a))] := by
  rw [MakeChecks.laidMetH_plain _ _ _ (by kernel_rfl)] at h
  obtain ⟨a, s, hv, _⟩ := laid_sentinel h gErr tErr Tryd.underlying30 row52 Tryd.underlying52 Tryd.underlying54 rfl rfl Tryd.underlying9 cells54 cells9
  exact ⟨a, hv⟩

theorem var_same {w w' : World} (h : w'.heap = w.heap) (n : String) : w'.var? Tryd.prog n = w.var? Tryd.prog n := by
  unfold World.var?; rw [h]

set_option maxRecDepth 100000 in
theorem lifted (os : Os) (started : os.Started) (H : Type) (enc : TypeId × Value → H) :
    ReturnsInHanded {} Tryd.checked os 3 .any (fun w args => (Rows.fnSafeSpec.pre enc Tryd.prog Tryd.f3 [] false w args ∧ laidMetH Tryd.prog Rows.fnSafeRow.laid w) ∧ sizedMet enc Tryd.prog Tryd.f3 (OpenSpec.ofChange Rows.fnSafeSpec) false w args)
      (Rows.fnSafeSpec.post enc Tryd.prog Tryd.f3 false true false false) := by
  refine returnsInHanded_of_change_and (C := Tryd.checked) (X := fun w _ => laidMetH Tryd.prog Rows.fnSafeRow.laid w) (fun _ _ _ hh h => h.of_heap hh) own started (by kernel_rfl) Tryd.func3
    (ChangeSpec.witness_shaped (enc := enc) (C := Tryd.checked) (os := os) (X := fun w _ => laidMetH Tryd.prog Rows.fnSafeRow.laid w) false (World.doorLaid Tryd.prog 400 os) #[.int .i64 0, .int .i64 0] 8 rfl (World.shaped_of_RefB (by kernel_rfl) (by kernel_rfl)) (by kernel_rfl) (by kernel_rfl) (by kernel_rfl) (door_met os _)) ?_
  intro W base args ds gs before hval0 hW _ _ hL _
  have hval : ∀ (j : Nat) t v, Tryd.f3.params[j]? = some t → args[j]? = some v → Value.okWide Tryd.prog W .any base t v := hval0
  have hW' := hW
  obtain ⟨p, q, hA0, hV0, rfl, hfz, hnd⟩ := hW
  have hA : DataW.TrodAll enc Tryd.prog W 0 (fun _ => true) true Tryd.f3.params.toList args.toList ds p := hA0
  have hV : DataW.TrodVars enc Tryd.prog W (fun _ => true) ["given.example/pub-quirewright/pub/pdfcpu/pkg/pdfcpu/safemath.errIntegerOverflow"] gs q := hV0
  rw [Tryd.params3] at hA hval
  obtain ⟨v0, v1, d0, d1, p0, p1, rfl, rfl, rfl, h0, h1⟩ := trodAll_two hA
  obtain ⟨x, rfl, rfl, rfl, wx⟩ := open_int Tryd.underlying3 (hval 0 3 v0 rfl rfl) h0
  obtain ⟨y, rfl, rfl, rfl, wy⟩ := open_int Tryd.underlying3 (hval 1 3 v1 rfl rfl) h1
  obtain ⟨a, hv⟩ := of_laid hL
  obtain ⟨rfl, rfl⟩ := hV.unique (vars_read1 enc gErr tErr Tryd.underlying30 hv trivial _)
  clear hA0 hV0 hval0
  have hg : W.cell? ⟨0, 0, none⟩ = some (.iface 52 (.pointer (some a))) := by simpa using World.var?_cell gErr hv 0
  have bx : -9223372036854775808 ≤ x ∧ x ≤ 9223372036854775807 := by simpa [Lit.wf, show IntKind.i64.min = -9223372036854775808 from rfl] using wx
  have bY : -9223372036854775808 ≤ y ∧ y ≤ 9223372036854775807 := by simpa [Lit.wf, show IntKind.i64.min = -9223372036854775808 from rfl] using wy
  refine (law_all x y (some a) W hg bx bY).mono fun e W' ⟨he, s⟩ => ?_
  subst he
  exact ⟨_, rfl, _, _, _, [], [], [.cell 0 0], hW', trodAll_mk1 (shut_bool Tryd.underlying4 _), trodAll_mk2 (shut_int Tryd.underlying3 wx) (shut_int Tryd.underlying3 wy), vars_read1 enc gErr tErr Tryd.underlying30 ((var_same s.1 _).trans hv) trivial _, s.below.frame _, fun h => by cases h⟩

theorem row_proved : Rows.FnSafeSaid :=
  OpenClaim.holds_of_wide 3 Tryd.f3 rfl rfl rfl rfl rfl rfl rfl ⟨rfl, rfl, rfl, rfl, rfl⟩ rfl rfl rfl rfl rfl (by kernel_rfl) Tryd.func3 (by kernel_rfl)
    (of_decide_eq_true (by kernel_rfl)) (by unfold Func.isWrapper; first | (rw [if_pos (by decide +kernel)]; kernel_rfl) | (rw [if_neg (by decide +kernel)]; exact ⟨rfl, rfl⟩))
    (fun os started H enc _ => lifted os started H enc)

/-- The statement: the tied card. -/
theorem proved : Rows.FnSafeCardSaid :=
  Claim7.holds_tied_plain_at .later [] [.sentinel] true (true, "dba47993cabd61674c07223b0344a9c3d824179af4b731d2df8defc17649b1c6") true
    row_proved (fun _ h => by cases h) (by kernel_rfl) (fun _ h => by cases h) fnSafe_row_tie rfl ⟨rfl, rfl⟩ (by kernel_rfl) rfl
    (fun f fn hf hfn => by
      obtain rfl : f = 3 := Option.some.inj ((show Tryd.prog.funcNamed "given.example/pub-quirewright/laws.FnSafe" = some 3 by kernel_rfl).symm.trans hf) |>.symm
      obtain rfl : fn = Tryd.f3 := (Option.some.inj (Tryd.func3.symm.trans hfn)).symm
      exact ⟨by kernel_rfl, fun j t ht => by
        rw [Tryd.params3] at ht
        have hm : t ∈ [3, 3] := by simpa using Array.mem_of_getElem? ht
        have hall : ([3, 3].all fun u => !Tryd.prog.wantsStandIn u) = true := by kernel_rfl
        exact (show Tryd.prog.wantsStandIn t = false by simpa using List.all_eq_true.1 hall t hm)⟩)
    (by kernel_rfl)
end Go.Proofs.YtlahbaolbgfmjaaDoor.fnSafe
