/-
FnEffective: boxOf walked. No condition.
-/
import Derived.Test.YtooghncdhjdcpaaB26
import Derived.Deep.MidRow
namespace Go.Proofs.Ytooghncdhjdcpaa
open Go.RowKit Fl

/-- Four words of a rectangle. -/
structure Q4 where
  x1 : Nat
  y1 : Nat
  x2 : Nat
  y2 : Nat
abbrev rcV (r : Q4) : Value := .agg #[.float .f64 (r.x1), .float .f64 (r.y1), .float .f64 (r.x2), .float .f64 (r.y2)]
/-- At an address lies a rectangle. -/
def LiesAt (W : World) (p : Addr) (r : Q4) : Prop := p.block < W.heap.size ∧ W.cell? p = some (.float .f64 (r.x1)) ∧ W.cell? ⟨p.block, p.off + 1, none⟩ = some (.float .f64 (r.y1)) ∧ W.cell? ⟨p.block, p.off + 2, none⟩ = some (.float .f64 (r.x2)) ∧ W.cell? ⟨p.block, p.off + 3, none⟩ = some (.float .f64 (r.y2))
theorem LiesAt.below {W W' : World} {p : Addr} {r : Q4} (h : LiesAt W p r) (hb : Below W.heap.size W W') : LiesAt W' p r := by
  obtain ⟨h0, h1, h2, h3, h4⟩ := h
  exact ⟨Nat.lt_of_lt_of_le h0 hb.size, (hb.cell h0).trans h1, (hb.cell (p := ⟨p.block, _, none⟩) h0).trans h2, (hb.cell (p := ⟨p.block, _, none⟩) h0).trans h3, (hb.cell (p := ⟨p.block, _, none⟩) h0).trans h4⟩
/-- What a list of at most one box is, as a value. -/
def BoxS (W : World) (s : Value) : Option Q4 → Prop
  | none => s = .slice none 0 0 ∨ ∃ p cap, s = .slice (some p) 0 cap
  | some r => ∃ p cap, s = .slice (some p) 1 cap ∧ LiesAt W p r
theorem BoxS.below {W W' : World} {s : Value} {o : Option Q4} (h : BoxS W s o) (hb : Below W.heap.size W W') : BoxS W' s o := by
  cases o with
  | none => exact h
  | some r => obtain ⟨p, cap, e, hl⟩ := h; exact ⟨p, cap, e, hl.below hb⟩
/-- A box behind a pointer (or none). -/
def BoxP (W : World) (N : Nat → Prop) (v : Value) : Option Q4 → Prop
  | none => v = .pointer none
  | some r => ∃ b g, v = ptrV b ∧ N b ∧ N g ∧ b < W.heap.size ∧ W.cell? ⟨b, 0, none⟩ = some (ptrV g) ∧ RectAt W g r.x1 r.y1 r.x2 r.y2
theorem BoxP.below {W W' : World} {N : Nat → Prop} {v : Value} {o : Option Q4} (h : BoxP W N v o) (hb : Below W.heap.size W W') : BoxP W' N v o := by
  cases o with
  | none => exact h
  | some r => obtain ⟨b, g, e, n1, n2, hl, hc, hr⟩ := h; exact ⟨b, g, e, n1, n2, Nat.lt_of_lt_of_le hl hb.size, (hb.cell (p := ⟨b, 0, none⟩) hl).trans hc, hr.below hb⟩
theorem BoxP.mono {W : World} {N N' : Nat → Prop} {v : Value} {o : Option Q4} (h : BoxP W N v o) (hn : ∀ k, k < W.heap.size → N k → N' k) : BoxP W N' v o := by
  cases o with
  | none => exact h
  | some r => obtain ⟨b, g, e, n1, n2, hl, hc, hr⟩ := h; exact ⟨b, g, e, hn b hl n1, hn g hr.1 n2, hl, hc, hr⟩
theorem RectAt.far {W : World} {g a b c d x k : Nat} {v : Value} (h : RectAt W g a b c d) (hne : g ≠ x) : RectAt (W.setCell ⟨x, k, none⟩ v) g a b c d := by
  obtain ⟨h0, h1, h2, h3, h4⟩ := h
  have f : ∀ j u, W.cell? ⟨g, j, none⟩ = some u → (W.setCell ⟨x, k, none⟩ v).cell? ⟨g, j, none⟩ = some u := fun j u hu => (World.cell?_setCell_other W ⟨x, k, none⟩ ⟨g, j, none⟩ _ (by intro c; exact hne (congrArg Addr.block c).symm)).trans hu
  exact ⟨by simpa using h0, f _ _ h1, f _ _ h2, f _ _ h3, f _ _ h4⟩
theorem BoxP.far {W : World} {N : Nat → Prop} {x k : Nat} {u v : Value} {o : Option Q4} (h : BoxP W N v o) (hn : ∀ k, N k → k ≠ x) : BoxP (W.setCell ⟨x, k, none⟩ u) N v o := by
  cases o with
  | none => exact h
  | some r =>
    obtain ⟨b, g, e, n1, n2, hl, hc, hr⟩ := h
    exact ⟨b, g, e, n1, n2, by simpa using hl, (World.cell?_setCell_other W ⟨x, k, none⟩ ⟨b, 0, none⟩ _ (by intro c; exact hn b n1 (congrArg Addr.block c).symm)).trans hc, hr.far (hn g n2)⟩
theorem boxof {W : World} {s : Value} {o : Option Q4} (h : BoxS W s o) : Calls Try.prog 81 #[s] W fun e w' => ∃ q, e = .returned (.pointer q) ∧ BoxP w' (fun k => W.heap.size ≤ k) (.pointer q) o ∧ Below W.heap.size W w' := by
  cases o with
  | none =>
    rcases h with rfl | ⟨p, cap, rfl⟩
    all_goals
      go_enter Try.func81, Try.ntmps81
      go_wp2_with fail
      go_ret
      exact ⟨_, rfl, rfl, Below.refl _ _⟩
  | some r =>
    obtain ⟨p, cap, rfl, hp, c0, c1, c2, c3⟩ := h
    obtain ⟨a, b, c, d⟩ := r
    go_enter Try.func81, Try.ntmps81
    go_wp2_with (go_at_call 67; refine (rect_exact _ _ _ _ _).mono ?_; rintro e w' ⟨rfl, hw⟩)
    have HG : Hid (RectAt w' (W.heap.size + 1) a b c d) := Lib.hid (hw ▸ rectAt_new _ _ _ _ _ _ _ (by simp))
    have hb2 : Hid (Below W.heap.size W w') := Lib.hid (hw ▸ below2 _ _ _)
    have hs : W.heap.size ≤ w'.heap.size := hb2.out.size
    clear hw c0 c1 c2 c3 hp
    go_wp2_with fail
    go_ret
    exact ⟨_, rfl, ⟨_, _, rfl, hs, by omega, by simp, cell_alloc_at _ _ _ 0, HG.out.below (below1 _ _)⟩, bel_alloc _ hb2.out⟩
/-- The five boxes of a page, as a value. -/
abbrev pbV (v0 v1 v2 v3 v4 : Value) : Value := .agg #[v0, v1, v2, v3, v4, .int .i64 0, .string ⟨#[]⟩]
/-- A rectangle's pointer. -/
def RecP (W : World) (N : Nat → Prop) (v : Value) (r : Q4) : Prop := ∃ g, v = ptrV g ∧ N g ∧ RectAt W g r.x1 r.y1 r.x2 r.y2
theorem RecP.below {W W' : World} {N : Nat → Prop} {v : Value} {r : Q4} (h : RecP W N v r) (hb : Below W.heap.size W W') : RecP W' N v r := by
  obtain ⟨g, e, n, hr⟩ := h
  exact ⟨g, e, n, hr.below hb⟩
theorem mediabox {W : World} {N : Nat → Prop} {v0 v1 v2 v3 v4 : Value} {m : Q4} (h0 : BoxP W N v0 (some m)) : Calls Try.prog 82 #[pbV v0 v1 v2 v3 v4] W fun e w' => ∃ v, e = .returned v ∧ RecP w' N v m ∧ Below W.heap.size W w' := by
  obtain ⟨b, g, rfl, n1, n2, hb, hc, hr⟩ := h0
  have hn : b ≠ W.heap.size := by omega
  have HR := Lib.hid hr
  clear hr
  go_enter Try.func82, Try.ntmps82
  go_wp2_with fail
  go_ret
  exact ⟨_, rfl, ⟨g, rfl, n2, HR.out.below (below1 _ _)⟩, below1 _ _⟩
theorem cropbox {W : World} {N : Nat → Prop} {v0 v1 v2 v3 v4 : Value} {m : Q4} {o : Option Q4} (h0 : BoxP W N v0 (some m)) (h1 : BoxP W N v1 o) : Calls Try.prog 83 #[pbV v0 v1 v2 v3 v4] W fun e w' => ∃ v, e = .returned v ∧ RecP w' N v (o.getD m) ∧ Below W.heap.size W w' := by
  have H0 := Lib.hid h0
  clear h0
  cases o with
  | none =>
    cases h1
    go_enter Try.func83, Try.ntmps83
    go_wp2_with (go_at_call 82; refine (mediabox (H0.out.below (below1 _ _))).mono ?_; rintro e w' ⟨v, rfl, hr, hb⟩)
    go_ret
    exact ⟨_, rfl, hr, (below1 _ _).trans (hb.mono (by simp))⟩
  | some r =>
    obtain ⟨b, g, rfl, n1, n2, hb, hc, hr⟩ := h1
    have hn : b ≠ W.heap.size := by omega
    have HR := Lib.hid hr
    clear hr
    go_enter Try.func83, Try.ntmps83
    go_wp2_with fail
    go_ret
    exact ⟨_, rfl, ⟨g, rfl, n2, HR.out.below (below1 _ _)⟩, below1 _ _⟩
theorem trimbox {W : World} {N : Nat → Prop} {v0 v1 v2 v3 v4 : Value} {m : Q4} {o q : Option Q4} (h0 : BoxP W N v0 (some m)) (h1 : BoxP W N v1 o) (h2 : BoxP W N v2 q) : Calls Try.prog 84 #[pbV v0 v1 v2 v3 v4] W fun e w' => ∃ v, e = .returned v ∧ RecP w' N v (q.getD (o.getD m)) ∧ Below W.heap.size W w' := by
  have H0 := Lib.hid h0
  have H1 := Lib.hid h1
  clear h0 h1
  cases q with
  | none =>
    cases h2
    go_enter Try.func84, Try.ntmps84
    go_wp2_with (go_at_call 83; refine (cropbox (H0.out.below (below1 _ _)) (H1.out.below (below1 _ _))).mono ?_; rintro e w' ⟨v, rfl, hr, hb⟩)
    go_ret
    exact ⟨_, rfl, hr, (below1 _ _).trans (hb.mono (by simp))⟩
  | some r =>
    obtain ⟨b, g, rfl, n1, n2, hb, hc, hr⟩ := h2
    have hn : b ≠ W.heap.size := by omega
    have HR := Lib.hid hr
    clear hr
    go_enter Try.func84, Try.ntmps84
    go_wp2_with fail
    go_ret
    exact ⟨_, rfl, ⟨g, rfl, n2, HR.out.below (below1 _ _)⟩, below1 _ _⟩
theorem bleedbox {W : World} {N : Nat → Prop} {v0 v1 v2 v3 v4 : Value} {m : Q4} {o q : Option Q4} (h0 : BoxP W N v0 (some m)) (h1 : BoxP W N v1 o) (h2 : BoxP W N v3 q) : Calls Try.prog 85 #[pbV v0 v1 v2 v3 v4] W fun e w' => ∃ v, e = .returned v ∧ RecP w' N v (q.getD (o.getD m)) ∧ Below W.heap.size W w' := by
  have H0 := Lib.hid h0
  have H1 := Lib.hid h1
  clear h0 h1
  cases q with
  | none =>
    cases h2
    go_enter Try.func85, Try.ntmps85
    go_wp2_with (go_at_call 83; refine (cropbox (H0.out.below (below1 _ _)) (H1.out.below (below1 _ _))).mono ?_; rintro e w' ⟨v, rfl, hr, hb⟩)
    go_ret
    exact ⟨_, rfl, hr, (below1 _ _).trans (hb.mono (by simp))⟩
  | some r =>
    obtain ⟨b, g, rfl, n1, n2, hb, hc, hr⟩ := h2
    have hn : b ≠ W.heap.size := by omega
    have HR := Lib.hid hr
    clear hr
    go_enter Try.func85, Try.ntmps85
    go_wp2_with fail
    go_ret
    exact ⟨_, rfl, ⟨g, rfl, n2, HR.out.below (below1 _ _)⟩, below1 _ _⟩
theorem artbox {W : World} {N : Nat → Prop} {v0 v1 v2 v3 v4 : Value} {m : Q4} {o q : Option Q4} (h0 : BoxP W N v0 (some m)) (h1 : BoxP W N v1 o) (h2 : BoxP W N v4 q) : Calls Try.prog 86 #[pbV v0 v1 v2 v3 v4] W fun e w' => ∃ v, e = .returned v ∧ RecP w' N v (q.getD (o.getD m)) ∧ Below W.heap.size W w' := by
  have H0 := Lib.hid h0
  have H1 := Lib.hid h1
  clear h0 h1
  cases q with
  | none =>
    cases h2
    go_enter Try.func86, Try.ntmps86
    go_wp2_with (go_at_call 83; refine (cropbox (H0.out.below (below1 _ _)) (H1.out.below (below1 _ _))).mono ?_; rintro e w' ⟨v, rfl, hr, hb⟩)
    go_ret
    exact ⟨_, rfl, hr, (below1 _ _).trans (hb.mono (by simp))⟩
  | some r =>
    obtain ⟨b, g, rfl, n1, n2, hb, hc, hr⟩ := h2
    have hn : b ≠ W.heap.size := by omega
    have HR := Lib.hid hr
    clear hr
    go_enter Try.func86, Try.ntmps86
    go_wp2_with fail
    go_ret
    exact ⟨_, rfl, ⟨g, rfl, n2, HR.out.below (below1 _ _)⟩, below1 _ _⟩
section
variable {P : Program}
theorem wpList_index {ops : Array Oper} {rest : List Oper} {op : Oper} {a : Act} {w : World} {Q : Exit → Act → World → Prop} (hgd : op.guard = none) (t : TypeId) (x ix : Operand) (ho : op.op = .index t x ix)
    (vx vi r : Value) (hx : a.eval x = vx) (hi : a.eval ix = vi) (hr : (Instr.index t vx vi).run P w = .ok r w) (h : wpList P ops Q rest (a.put op.dst r) w) : wpList P ops Q (op :: rest) a w :=
  wpList_plain hgd fun _ hK => by
    unfold Oper.wp execOp
    simp only [ho, hx, hi, hr, Sem.run_bind, Sem.run_pure, Result.andThen_ok]
    exact hK _ _ h
end
theorem idx_arr {P : Program} (t e : TypeId) (n : Nat) (d : TypeDesc) (hu : P.underlying t = some (.array n e)) (hs : (P.info? e).map (·.size) = some 1) (hd : P.underlying e = some d) (hd2 : d.isRow = false) (cs : Array Value) (k : Nat) (v : Value) (hk : k < n) (hv : cs[k]? = some v) (w : World) :
    (Instr.index t (.agg cs) (.int .i64 (k : Int))).run P w = .ok v w := by
  obtain ⟨i, hi, hs1⟩ : ∃ i, P.info? e = some i ∧ i.size = 1 := by
    cases h : P.info? e with
    | none => simp [h] at hs
    | some i => exact ⟨i, rfl, by simpa [h] using hs⟩
  simp only [Instr.index, asIntOf, Sem.run_bind, Sem.run_pure, Result.andThen_ok, run_underlying hu]
  rw [if_pos ⟨by omega, by omega⟩]
  have hagg : (isAgg e).run P w = .ok false w := by
    unfold isAgg
    rw [Sem.run_bind, run_underlying hd w]
    cases d <;> simp_all
  simp [part, Sem.run_bind, sizeOf, typeInfo, hi, hs1, hagg, hv]
theorem idx134 (cs : Array Value) (k : Nat) (v : Value) (hk : k < 5) (hv : cs[k]? = some v) (w : World) : (Instr.index 134 (.agg cs) (.int .i64 (k : Int))).run Try.prog w = .ok v w :=
  idx_arr 134 101 5 _ Try.underlying134 (by kernel_rfl) Try.underlying101 rfl cs k v hk hv w
theorem idx69 (cs : Array Value) (k : Nat) (v : Value) (hk : k < 4) (hv : cs[k]? = some v) (w : World) : (Instr.index 69 (.agg cs) (.int .i64 (k : Int))).run Try.prog w = .ok v w :=
  idx_arr 69 68 4 _ Try.underlying69 (by kernel_rfl) Try.underlying68 rfl cs k v hk hv w
end Go.Proofs.Ytooghncdhjdcpaa
