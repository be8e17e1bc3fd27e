/-
The law FnColorParts holds: the row (its listed variables: two of them are read), and its tied card.
-/
import Derived.Test.YtakckfghiaoonaaDoorP5
import Derived.Test.YtakckfghiaoonaaDoorCards
import Derived.Test.YtakckfghiaoonaaDoorTie
import Derived.ProofKit
import Derived.SevenTiedAt
import Derived.LaidMore
import Derived.Lay
import Derived.OpenShut
import Derived.ChangeVars
import Derived.OpenVars
import Derived.Stop.Joined
namespace Go.Proofs.YtakckfghiaoonaaDoor.fnColorParts
open Go.ChangeShapes Go.WideShapes Go.ChangeAt Go.WideMaps Go.WideElems Go.RowKit Go.Proofs.YtakckfghiaoonaaDoorW.PrintWords

theorem own : ownKnob Tryd.prog.godebug = none := by kernel_rfl
abbrev nine : List String := ["given.example/pub-quirewright/pub/pdfcpu/pkg/pdfcpu/color.Black", "given.example/pub-quirewright/pub/pdfcpu/pkg/pdfcpu/color.DarkGray", "given.example/pub-quirewright/pub/pdfcpu/pkg/pdfcpu/color.Gray", "given.example/pub-quirewright/pub/pdfcpu/pkg/pdfcpu/color.LightGray", "given.example/pub-quirewright/pub/pdfcpu/pkg/pdfcpu/color.White", "given.example/pub-quirewright/pub/pdfcpu/pkg/pdfcpu/color.Red", "given.example/pub-quirewright/pub/pdfcpu/pkg/pdfcpu/color.Green", "given.example/pub-quirewright/pub/pdfcpu/pkg/pdfcpu/color.Blue", "given.example/pub-quirewright/pub/pdfcpu/pkg/pdfcpu/color.ErrInvalidColor"]
theorem rowed : varsRowed Tryd.prog nine = true := by kernel_rfl
theorem vars_len {H : Type} {enc : TypeId × Value → H} {P : Program} {W : World} {ok : Nat → Bool} : ∀ {ns : List String} {gs : List (DataW H)} {ps : List MemPlace}, DataW.TrodVars enc P W ok ns gs ps → gs.length = ns.length
  | [], [], _, _ => rfl
  | [], _ :: _, _, h => h.elim
  | _ :: _, [], _, h => h.elim
  | _ :: _, _ :: _, _, ⟨_, _, _, _, _, _, _, _, _, _, h, _⟩ => by simp [vars_len h]
theorem laidOut : laidOutB Tryd.prog = true := by kernel_rfl
theorem gOpt : Tryd.prog.globalNamed "internal/strconv.optimize" = some 13 := by kernel_rfl
theorem tOpt : (Tryd.prog.globals[13]?).map (·.type) = some 4 := by kernel_rfl
theorem gPow : Tryd.prog.globalNamed "internal/strconv.float32pow10" = some 15 := by kernel_rfl
theorem tPow : (Tryd.prog.globals[15]?).map (·.type) = some 105 := by kernel_rfl
theorem cellsF : Tryd.prog.cellsOf 36 = 1 := by kernel_rfl
section
variable {H : Type} {enc : TypeId × Value → H} {P : Program} {w : World} {base : Nat} {spare : Nat → Bool} {held : Bool}
theorem flt {fuel : Nat} {t : TypeId} {k : FloatKind} {cs : List Value} {d : DataW H} {ps : List MemPlace} (ht : P.underlying t = some (.float k)) (h : DataW.trod enc P w base spare held fuel t cs = some (d, ps)) : ∃ b, cs = [.float k b] ∧ d = .lit (.float k b) := by
  cases fuel with
  | zero => simp [DataW.trod] at h
  | succ n =>
    unfold DataW.trod at h
    rw [ht] at h
    split at h <;> simp_all
theorem bln {fuel : Nat} {t : TypeId} {cs : List Value} {d : DataW H} {ps : List MemPlace} (ht : P.underlying t = some .bool) (h : DataW.trod enc P w base spare held fuel t cs = some (d, ps)) : ∃ b, cs = [.bool b] ∧ d = .lit (.bool b) := by
  cases fuel with
  | zero => simp [DataW.trod] at h
  | succ n =>
    unfold DataW.trod at h
    rw [ht] at h
    split at h <;> simp_all
theorem slice_at {t e : TypeId} {fuel n : Nat} {cs : List Value} {ds : List (DataW H)} {q : List MemPlace} (ht : P.underlying t = some (.slice e)) (he : P.underlying e = some (.float .f32)) (hc : P.cellsOf e = 1) (hn : ds.length = n) (h0 : 0 < n) (h : DataW.trod enc P w base spare held fuel t cs = some (.slice ds [], q)) :
    ∃ (a : Addr) (cap : Nat), cs = [.slice (some a) n cap] ∧ ∀ i b, i < n → ds[i]? = some (.lit (.float .f32 b)) → w.cell? (a.add i) = some (.float .f32 b) := by
  rcases DataW.trod_slice ht h with ⟨_, hx⟩ | ⟨a, len, cap, elems, rest, m, _, rfl, hx, _, _, _, hlen, hel, _, _⟩
  · cases hx
  · simp only [Prod.mk.injEq, DataW.slice.injEq] at hx
    obtain ⟨⟨hds, _⟩, _⟩ := hx
    have hl : len = n := by rw [← hn, hds]; simp [hlen]
    subst hl
    refine ⟨a, cap, rfl, fun i b hi hb => ?_⟩
    have h1 := hel i hi
    rw [hc, Nat.mul_one] at h1
    have hlt : i < elems.length := by omega
    rw [List.getElem?_eq_getElem hlt, Option.bind_eq_some_iff] at h1
    obtain ⟨cs', h2, h3⟩ := h1
    obtain ⟨b', hcs, hd⟩ := flt he (d := elems[i].1) (ps := elems[i].2) h3
    have e1 : ds[i]? = some elems[i].1 := by rw [hds]; simp [hlt]
    rw [hb] at e1
    have e2 := Option.some.inj e1
    rw [hd] at e2
    simp only [DataW.lit.injEq, Lit.float.injEq, true_and] at e2
    subst e2
    rw [hcs] at h2
    exact cell_of_cells?_one h2
end
set_option maxRecDepth 100000 in
/-- What the listed variables hold that are read. -/
theorem vars_of {W : World} (h : laidMetH Tryd.prog Rows.fnColorPartsRow.laid W) : Vars W := by
  rw [MakeChecks.laidMetH_plain _ _ _ (by kernel_rfl)] at h
  obtain ⟨ps, h, _⟩ := h
  obtain ⟨_, _, _, _, _, _, _, _, _, _, h, _⟩ := h
  obtain ⟨_, _, _, _, _, _, _, _, _, _, h, _⟩ := h
  obtain ⟨_, _, _, _, _, _, _, _, _, _, h, _⟩ := h
  obtain ⟨_, _, _, _, _, _, _, _, _, _, h, _⟩ := h
  obtain ⟨g1, t1, cs1, f1, p1, q1, hg1, ht1, hv1, hd1, h, _⟩ := h
  obtain ⟨_, _, _, _, _, _, _, _, _, _, h, _⟩ := h
  obtain ⟨_, _, _, _, _, _, _, _, _, _, h, _⟩ := h
  obtain ⟨g2, t2, cs2, f2, p2, q2, hg2, ht2, hv2, hd2, h, _⟩ := h
  obtain rfl := Option.some.inj (tOpt.symm.trans (Option.some.inj (gOpt.symm.trans hg1) ▸ ht1))
  obtain rfl := Option.some.inj (tPow.symm.trans (Option.some.inj (gPow.symm.trans hg2) ▸ ht2))
  obtain ⟨b, hb, hb'⟩ := bln Tryd.underlying4 hd1
  unfold Rows.laid_internal_strconv_optimize at hb'
  simp only [DataW.lit.injEq, Lit.bool.injEq] at hb'
  subst hb'
  unfold Rows.laid_internal_strconv_float32pow10 at hd2
  obtain ⟨a, cap, hc, hel⟩ := slice_at (n := 11) Tryd.underlying105 Tryd.underlying36 cellsF rfl (by decide) hd2
  refine ⟨?_, a, cap, ?_, ?_, ?_⟩
  · have := World.var?_cell gOpt hv1 0
    rw [this, ← Array.getElem?_toList, hb]; rfl
  · have := World.var?_cell gPow hv2 0
    rw [this, ← Array.getElem?_toList, hc]; rfl
  · exact hel 1 _ (by decide) rfl
  · exact hel 2 _ (by decide) rfl
section
variable {H : Type} {enc : TypeId × Value → H} {w : World} {base : Nat} {spare : Nat → Bool} {held : Bool}
set_option maxRecDepth 100000 in
/-- An argument of three whole numbers opened. -/
theorem open_three {v : Value} {d : DataW H} {p : List MemPlace} {r : Reach} {b0 : Nat} (hv : Value.okWide Tryd.prog w r b0 22 v) (h : DataW.Trod enc Tryd.prog w base spare held 22 v d p) :
    ∃ x y z : Int, v = .agg #[.int .i64 x, .int .i64 y, .int .i64 z] := by
  have h0 : ∃ cs : Array Value, v = .agg cs ∧ cs.size = 3 := by
    simp only [Value.okWide, Tryd.underlying22] at hv
    obtain ⟨cs, h1, h2, _⟩ := hv
    exact ⟨cs, h1, by rw [h2]; kernel_rfl⟩
  obtain ⟨cs, rfl, hs⟩ := h0
  obtain ⟨fuel, hf⟩ := h
  obtain ⟨xs, m, rfl, hx, hlen, hn, hel⟩ := DataW.trod_array Tryd.underlying22 hf
  have key : ∀ i, i < 3 → ∃ b : Int, cs[i]? = some (.int .i64 b) := by
    intro i hi
    have h1 := hel i hi
    have hl : i < xs.length := by omega
    rw [List.getElem?_eq_getElem hl, show Tryd.prog.cellsOf 3 = 1 by kernel_rfl] at h1
    have e : (((Value.agg cs).cells.toList.drop (i * 1)).take 1) = [cs[i]'(by omega)] := by
      refine List.ext_getElem? fun k => ?_
      cases k with
      | zero =>
        rw [List.getElem?_take_of_lt (by omega), List.getElem?_drop]
        show cs.toList[_]? = _
        rw [Array.getElem?_toList, show i * 1 + 0 = i by omega, Array.getElem?_eq_getElem (by omega)]
        rfl
      | succ k =>
        rw [List.getElem?_eq_none (by simp; omega), List.getElem?_eq_none (by simp)]
    rw [e] at h1
    obtain ⟨a, e0, _, _⟩ := DataW.trod_int Tryd.underlying3 h1
    simp at e0
    exact ⟨a, by rw [Array.getElem?_eq_getElem (by omega), e0]⟩
  obtain ⟨x, ex⟩ := key 0 (by omega)
  obtain ⟨y, ey⟩ := key 1 (by omega)
  obtain ⟨z, ez⟩ := key 2 (by omega)
  refine ⟨x, y, z, congrArg Value.agg ?_⟩
  apply Array.ext
  · simp [hs]
  · intro i h1 h2
    have : i = 0 ∨ i = 1 ∨ i = 2 := by omega
    rcases this with rfl | rfl | rfl
    · rw [Array.getElem?_eq_getElem h1] at ex; exact Option.some.inj ex
    · rw [Array.getElem?_eq_getElem h1] at ey; exact Option.some.inj ey
    · rw [Array.getElem?_eq_getElem h1] at ez; exact Option.some.inj ez
end
set_option maxRecDepth 100000 in
theorem lifted (os : Os) (started : os.Started) (H : Type) (enc : TypeId × Value → H) :
    ReturnsInHanded {} Tryd.checked os 3 .any (fun w args => (Rows.fnColorPartsSpec.pre enc Tryd.prog Tryd.f3 [] false w args ∧ laidMetH Tryd.prog Rows.fnColorPartsRow.laid w) ∧ sizedMet enc Tryd.prog Tryd.f3 (OpenSpec.ofChange Rows.fnColorPartsSpec) false w args)
      (Rows.fnColorPartsSpec.post enc Tryd.prog Tryd.f3 false true false false) := by
  refine returnsInHanded_of_change_and (C := Tryd.checked) (X := fun w _ => laidMetH Tryd.prog Rows.fnColorPartsRow.laid w) (fun _ _ _ hh h => h.of_heap hh) own started (by kernel_rfl) Tryd.func3
    (ChangeSpec.witness_shaped (enc := enc) (C := Tryd.checked) (os := os) (X := fun w _ => laidMetH Tryd.prog Rows.fnColorPartsRow.laid w) false (World.laidAll Tryd.prog os Rows.fnColorPartsRow.laid) #[.agg #[.int .i64 0, .int .i64 0, .int .i64 0]] 8 (World.laidAll_os _ _ _)
      (World.shaped_of_ZipB (by kernel_rfl) (by kernel_rfl)) (by kernel_rfl) (by kernel_rfl) (by kernel_rfl)
      (by rw [MakeChecks.laidMetH_plain _ _ _ (by kernel_rfl)]; exact laidMet_laidAll _ (by kernel_rfl) (by kernel_rfl))) ?_
  intro W base args ds gs before hval0 hW _ _ hL _
  have hval : ∀ (j : Nat) t v, Tryd.f3.params[j]? = some t → args[j]? = some v → Value.okWide Tryd.prog W .any base t v := hval0
  have hW' := hW
  obtain ⟨p, q, hA0, hV, rfl, hfz, hnd⟩ := hW
  have hA : DataW.TrodAll enc Tryd.prog W 0 (fun _ => true) true Tryd.f3.params.toList args.toList ds p := hA0
  rw [Tryd.params3] at hA hval
  obtain ⟨v0, d0, rfl, rfl, h0⟩ := trodAll_one hA
  have hV1 : DataW.TrodVars enc Tryd.prog W (fun _ => true) nine gs q := hV
  have hlen := vars_len hV1
  obtain ⟨g1, g2, g3, g4, g5, g6, g7, g8, g9, rfl⟩ : ∃ g1 g2 g3 g4 g5 g6 g7 g8 g9, gs = [g1, g2, g3, g4, g5, g6, g7, g8, g9] := by
    match gs, hlen with
    | [g1, g2, g3, g4, g5, g6, g7, g8, g9], _ => exact ⟨g1, g2, g3, g4, g5, g6, g7, g8, g9, rfl⟩
  have k0 := h0
  have lt0 : ∀ x ∈ p, x.block < W.heap.size := by obtain ⟨m, hm⟩ := k0; exact DataW.trod_lt m _ _ _ hm
  obtain ⟨x, y, z, rfl⟩ := open_three (hval 0 22 v0 rfl rfl) h0
  clear hA0 hval0
  refine (law_calls x y z W (vars_of hL)).mono fun e W' ⟨he, bel⟩ => ?_
  subst he
  exact ⟨_, rfl, _, _, _, [], p, q, hW', trodAll_mk1 (shut_bool Tryd.underlying4 _), trodAll_mk1 (Below.trod laidOut (by kernel_rfl) (of_decide_eq_true (by kernel_rfl)) k0 bel lt0), bel.trodVars laidOut rowed hV1, bel.frame _, fun h => by cases h⟩

theorem row_proved : Rows.FnColorPartsSaid :=
  OpenClaim.holds_of_wide 3 Tryd.f3 rfl rfl rfl rfl rfl rfl rfl ⟨rfl, rfl, rfl, rfl, rfl⟩ rfl rfl rfl rfl rfl (by kernel_rfl) Tryd.func3 (by kernel_rfl)
    (of_decide_eq_true (by kernel_rfl)) (by unfold Func.isWrapper; first | (rw [if_pos (by decide +kernel)]; kernel_rfl) | (rw [if_neg (by decide +kernel)]; exact ⟨rfl, rfl⟩))
    (fun os started H enc _ => lifted os started H enc)

/-- The statement: the tied card. -/
theorem proved : Rows.FnColorPartsCardSaid :=
  Claim7.holds_tied_plain_at .later [] [.data, .data, .widerDeep, .widerDeep, .data, .data, .data, .data, .data, .sentinel, .sentinel, .sentinel, .data, .data, .data, .data, .data, .data, .data, .data, .sentinel, .pinned, .pinned] true (true, "f963ad00f69cae1b4bcaed769d77a82b41ea2f786de56a85c697bf2b921aab59") true
    row_proved (fun _ h => by cases h) (by kernel_rfl) (fun _ h => by cases h) fnColorParts_row_tie rfl ⟨rfl, rfl⟩ (by kernel_rfl) rfl
    (fun f fn hf hfn => by
      obtain rfl : f = 3 := Option.some.inj ((show Tryd.prog.funcNamed "given.example/pub-quirewright/laws.FnColorParts" = some 3 by kernel_rfl).symm.trans hf) |>.symm
      obtain rfl : fn = Tryd.f3 := (Option.some.inj (Tryd.func3.symm.trans hfn)).symm
      exact ⟨by kernel_rfl, fun j t ht => by
        rw [Tryd.params3] at ht
        have hm : t ∈ [22] := by simpa using Array.mem_of_getElem? ht
        have hall : ([22].all fun u => !Tryd.prog.wantsStandIn u) = true := by kernel_rfl
        exact (show Tryd.prog.wantsStandIn t = false by simpa using List.all_eq_true.1 hall t hm)⟩)
    (by kernel_rfl)
end Go.Proofs.YtakckfghiaoonaaDoor.fnColorParts
