/-
FnEffective: the law walked. No condition.
-/
import Derived.Test.YtooghncdhjdcpaaB31
import Derived.Test.YtooghncdhjdcpaaB32
import Derived.BigQuiet
import Derived.Deep.QuietTactic
import Derived.Deep.DeepCutAuto
namespace Go.Proofs.Ytooghncdhjdcpaa
open Go.RowKit Fl

noncomputable abbrev propQ (r : Q4) : Bool := properB r.x1 r.y1 r.x2 r.y2
/-- A list of boxes among the arguments: its length; the box, where it is one. -/
def ArgS (W : World) (s : Value) (n : Nat) (o : Option Q4) : Prop := LenS s n ∧ (n = 0 → o = none) ∧ (n = 1 → ∃ r, o = some r ∧ BoxS W s (some r))
theorem ArgS.box {W : World} {s : Value} {n : Nat} {o : Option Q4} (h : ArgS W s n o) (hn : n ≤ 1) : BoxS W s o := by
  obtain ⟨h1, h2, h3⟩ := h
  rcases Nat.lt_or_ge n 1 with c | c
  · obtain rfl : n = 0 := by omega
    rw [h2 rfl]
    rcases h1 with ⟨rfl, _⟩ | ⟨p, cap, rfl⟩
    · exact .inl rfl
    · exact .inr ⟨p, cap, rfl⟩
  · obtain ⟨r, e, hb⟩ := h3 (by omega)
    rw [e]; exact hb
set_option maxRecDepth 100000 in
set_option maxHeartbeats 4000000 in
/-- Where the law does not ask. -/
theorem eff_far {m : Q4} {s0 s1 s2 s3 : Value} {n0 n1 n2 n3 : Nat} (h0 : LenS s0 n0) (h1 : LenS s1 n1) (h2 : LenS s2 n2) (h3 : LenS s3 n3) (w : World) (h : ¬ (n0 ≤ 2147483647 ∧ n1 ≤ 2147483647 ∧ n2 ≤ 2147483647 ∧ n3 ≤ 2147483647) ∨ propQ m = false) :
    Calls Try.prog 16 #[rcV m, .agg #[s0, s1, s2, s3]] w fun e w' => e = .returned (.bool true) ∧ Below w.heap.size w w' := by
  have H0 := Lib.hid h0
  have H1 := Lib.hid h1
  have H2 := Lib.hid h2
  have H3 := Lib.hid h3
  clear h0 h1 h2 h3
  obtain ⟨x1, y1, x2, y2⟩ := m
  by_cases hf : n0 ≤ 2147483647 ∧ n1 ≤ 2147483647 ∧ n2 ≤ 2147483647 ∧ n3 ≤ 2147483647
  · have hp : properB x1 y1 x2 y2 = false := h.resolve_left (fun c => c hf)
    have HP := Lib.hid hp
    have HD := Lib.hid (decide_eq_true hf)
    clear h hp hf
    go_enter Try.func16, Try.ntmps16
    go_wp2_with (first | (go_at_call 47; refine (fits2 H0.out H1.out H2.out H3.out _).mono ?_; rintro e w1 ⟨he, hb⟩; rw [HD.out] at he; subst he; have HB := Lib.hid hb; have c0 := (((listAt_new w _ rfl [.float .f64 x1, .float .f64 y1, .float .f64 x2, .float .f64 y2] 36).below (below1 _ _)).below hb).2 0 _ rfl |>.1; have c1 := (((listAt_new w _ rfl [.float .f64 x1, .float .f64 y1, .float .f64 x2, .float .f64 y2] 36).below (below1 _ _)).below hb).2 1 _ rfl |>.1; have c2 := (((listAt_new w _ rfl [.float .f64 x1, .float .f64 y1, .float .f64 x2, .float .f64 y2] 36).below (below1 _ _)).below hb).2 2 _ rfl |>.1; have c3 := (((listAt_new w _ rfl [.float .f64 x1, .float .f64 y1, .float .f64 x2, .float .f64 y2] 36).below (below1 _ _)).below hb).2 3 _ rfl |>.1; clear hb) | (go_at_call 28; refine (proper_any _ _ _ _ false _ HP.out).mono ?_; rintro e w2 ⟨rfl, rfl⟩))
    go_ret
    exact ⟨rfl, ((below2 _ _ _).trans (HB.out.mono (by simp <;> omega))).trans ((below2 _ _ _).mono (by have := HB.out.size; simp at this; omega))⟩
  · have HD := Lib.hid (decide_eq_false hf)
    clear h hf
    go_enter Try.func16, Try.ntmps16
    go_wp2_with (go_at_call 47; refine (fits2 H0.out H1.out H2.out H3.out _).mono ?_; rintro e w1 ⟨he, hb⟩; rw [HD.out] at he; subst he; have HB := Lib.hid hb; clear hb)
    go_ret
    exact ⟨rfl, (below2 _ _ _).trans (HB.out.mono (by simp <;> omega))⟩
abbrev mL (r : Q4) : List Value := [.float .f64 (r.x1), .float .f64 (r.y1), .float .f64 (r.x2), .float .f64 (r.y2)]
/-- What the first loop keeps: the media box's block, the lists' block, and the list of the media box. -/
def Law1 (w : World) (m : Q4) (bb sb : Nat) (l : List Value) (W : World) : Prop :=
  Below w.heap.size w W ∧ ListAt W w.heap.size (mL m) ∧ ListAt W bb l ∧ ListAt W sb (mL m) ∧ w.heap.size + 1 < sb ∧ sb < bb
theorem Law1.below {w W W' : World} {m : Q4} {bb sb : Nat} {l : List Value} (h : Law1 w m bb sb l W) (hb : Below W.heap.size W W') : Law1 w m bb sb l W' :=
  ⟨h.1.trans (hb.mono h.1.size), h.2.1.below hb, h.2.2.1.below hb, h.2.2.2.1.below hb, h.2.2.2.2⟩
theorem Law1.set {w W : World} {m : Q4} {bb sb : Nat} {l : List Value} (h : Law1 w m bb sb l W) (k : Nat) (v : Value) : Law1 w m bb sb (l.set k v) (W.setCell ⟨bb, k, none⟩ v) := by
  obtain ⟨h1, h2, h3, h4, h5, h6⟩ := h
  exact ⟨h1.setCell (by show w.heap.size ≤ bb; omega) _, h2.far (by omega), h3.set k v, h4.far (by omega), h5, h6⟩
theorem Law1.drew {w W : World} {m : Q4} {bb sb : Nat} {l : List Value} (h : Law1 w m bb sb l W) : Law1 w m bb sb l W.drew := h.below (Below.refl _ _).drew
theorem sz2 {w w1 : World} {p q : Obj} (hb : Below ((w.alloc p).alloc q).heap.size ((w.alloc p).alloc q) w1) : w.heap.size + 1 < w1.heap.size := by
  have h := hb.size
  simp at h
  omega
theorem m4 {w w1 : World} {m : Q4} {q : Obj} (hb : Below ((w.alloc (.cells (mL m).toArray 36)).alloc q).heap.size ((w.alloc (.cells (mL m).toArray 36)).alloc q) w1) : ListAt w1 w.heap.size (mL m) := ((listAt_new w _ rfl (mL m) 36).below (below1 _ _)).below hb
theorem Law1.far {w W : World} {m : Q4} {bb sb x k : Nat} {l : List Value} {v : Value} (h : Law1 w m bb sb l W) (hx : bb < x) : Law1 w m bb sb l (W.setCell ⟨x, k, none⟩ v) := by
  obtain ⟨h1, h2, h3, h4, h5, h6⟩ := h
  exact ⟨h1.setCell (by show w.heap.size ≤ x; omega) _, h2.far (by omega), h3.far (by omega), h4.far (by omega), h5, h6⟩
theorem Law1.far4 {w W : World} {m : Q4} {bb sb x : Nat} {l : List Value} {a b c d : Value} (h : Law1 w m bb sb l W) (hx : bb < x) : Law1 w m bb sb l ((((W.setCell ⟨x, 0, none⟩ a).setCell ⟨x, 1, none⟩ b).setCell ⟨x, 2, none⟩ c).setCell ⟨x, 3, none⟩ d) :=
  (((h.far hx).far hx).far hx).far hx
theorem list_set4 {W : World} {x : Nat} {p q r s a b c d : Value} (h : ListAt W x [p, q, r, s]) : ListAt ((((W.setCell ⟨x, 0, none⟩ a).setCell ⟨x, 1, none⟩ b).setCell ⟨x, 2, none⟩ c).setCell ⟨x, 3, none⟩ d) x [a, b, c, d] :=
  (((h.set 0 a).set 1 b).set 2 c).set 3 d
theorem lies_of {W : World} {sb : Nat} {m : Q4} (h : ListAt W sb (mL m)) : LiesAt W ⟨sb, 0, none⟩ m := ⟨h.1, (h.2 0 _ rfl).1, (h.2 1 _ rfl).1, (h.2 2 _ rfl).1, (h.2 3 _ rfl).1⟩
/-- The boxes' block, and the crop box's. -/
def LawC (w : World) (m cr : Q4) (bb sb cb : Nat) (l : List Value) (W : World) : Prop := Law1 w m bb sb l W ∧ ListAt W cb (mL cr) ∧ bb < cb
theorem LawC.below {w W W' : World} {m cr : Q4} {bb sb cb : Nat} {l : List Value} (h : LawC w m cr bb sb cb l W) (hb : Below W.heap.size W W') : LawC w m cr bb sb cb l W' :=
  ⟨h.1.below hb, h.2.1.below hb, h.2.2⟩
abbrev msV (sb : Nat) : Value := .slice (some ⟨sb, 0, none⟩) 1 1
/-- The five lists, k of the arguments laid in. -/
abbrev bxs (sb : Nat) (s0 s1 s2 s3 : Value) : Nat → List Value
  | 0 => [msV sb, nilS, nilS, nilS, nilS]
  | 1 => [msV sb, s0, nilS, nilS, nilS]
  | 2 => [msV sb, s0, s1, nilS, nilS]
  | 3 => [msV sb, s0, s1, s2, nilS]
  | _ => [msV sb, s0, s1, s2, s3]
/-- A list that the law lets through. -/
def GoodA (n : Nat) (o : Option Q4) : Prop := n ≤ 1 ∧ ∀ r, o = some r → propQ r = true
/-- The answer: lists of one new box. -/
def LawG (gb b0 b1 b2 b3 b4 : Nat) (e0 e1 e2 e3 e4 : Q4) (W : World) : Prop :=
  ListAt W gb [msV b0, msV b1, msV b2, msV b3, msV b4] ∧ RectAt W b0 e0.x1 e0.y1 e0.x2 e0.y2 ∧ RectAt W b1 e1.x1 e1.y1 e1.x2 e1.y2 ∧ RectAt W b2 e2.x1 e2.y1 e2.x2 e2.y2 ∧ RectAt W b3 e3.x1 e3.y1 e3.x2 e3.y2 ∧ RectAt W b4 e4.x1 e4.y1 e4.x2 e4.y2
theorem LawG.below {gb b0 b1 b2 b3 b4 : Nat} {e0 e1 e2 e3 e4 : Q4} {W W' : World} (h : LawG gb b0 b1 b2 b3 b4 e0 e1 e2 e3 e4 W) (hb : Below W.heap.size W W') : LawG gb b0 b1 b2 b3 b4 e0 e1 e2 e3 e4 W' :=
  ⟨h.1.below hb, h.2.1.below hb, h.2.2.1.below hb, h.2.2.2.1.below hb, h.2.2.2.2.1.below hb, h.2.2.2.2.2.below hb⟩
theorem eqin_float {P : Program} (w : World) (d : Nat) (t : TypeId) (k k' : FloatKind) (a b : Nat) (h : P.underlying t = some (.float k')) : (Op.equalIn (d + 1) t (.float k a) (.float k b)).run P w = .ok (k.format.order a b == some .eq) w := by
  simp [Op.equalIn, run_underlying h, Op.floatEq]
theorem order_self {x : Nat} {q : Rat} (h : R x q) : (FloatKind.f64.format.order x x == some Ordering.eq) = true := f_eql h h (decide_eq_true rfl)
/-- A proper rectangle equals itself, as the program compares it. -/
theorem neq_self {r : Q4} (h : propQ r = true) (w : World) : (binOp .neq 36 (rcV r) (rcV r)).run Try.prog w = .ok (.bool false) w := by
  obtain ⟨k, l, m, n, h1, h2, h3, h4, _⟩ := properB_true h
  have hf := fun (d : Nat) (k : FloatKind) (x y : Nat) => eqin_float (P := Try.prog) w d 22 k .f64 x y Try.underlying22
  simp [go_sem, hf, order_self h1, order_self h2, order_self h3, order_self h4]

set_option linter.unusedSimpArgs false in
set_option maxRecDepth 100000 in
set_option maxHeartbeats 16000000 in
theorem eff_law {m : Q4} {s0 s1 s2 s3 : Value} {n0 n1 n2 n3 : Nat} {o0 o1 o2 o3 : Option Q4} {w : World} (h0 : ArgS w s0 n0 o0) (h1 : ArgS w s1 n1 o1) (h2 : ArgS w s2 n2 o2) (h3 : ArgS w s3 n3 o3)
    (hf : n0 ≤ 2147483647 ∧ n1 ≤ 2147483647 ∧ n2 ≤ 2147483647 ∧ n3 ≤ 2147483647) (hp : propQ m = true) :
    Calls Try.prog 16 #[rcV m, .agg #[s0, s1, s2, s3]] w fun e w' => e = .returned (.bool true) ∧ Below w.heap.size w w' := by
  obtain ⟨a0, c0, rfl⟩ := h0.1.form
  obtain ⟨a1, c1, rfl⟩ := h1.1.form
  obtain ⟨a2, c2, rfl⟩ := h2.1.form
  obtain ⟨a3, c3, rfl⟩ := h3.1.form
  have H0 := Lib.hid h0
  have H1 := Lib.hid h1
  have H2 := Lib.hid h2
  have H3 := Lib.hid h3
  have HP := Lib.hid hp
  have HD := Lib.hid (decide_eq_true hf)
  clear h0 h1 h2 h3 hf hp
  go_enter Try.func16, Try.ntmps16
  go_upto_region 6 with (first | (go_at_call 47; refine (fits2 H0.out.1 H1.out.1 H2.out.1 H3.out.1 _).mono ?_; rintro e w1 ⟨he, hb⟩; rw [HD.out] at he; subst he; have HB := Lib.hid hb; have hsz := sz2 hb; have hL := m4 hb; have x0 := (hL.2 0 _ rfl).1; have x1 := (hL.2 1 _ rfl).1; have x2 := (hL.2 2 _ rfl).1; have x3 := (hL.2 3 _ rfl).1; have y0 := (fun p q => ((hL.below (below2 _ p q)).2 0 _ rfl).1); have y1 := (fun p q => ((hL.below (below2 _ p q)).2 1 _ rfl).1); have y2 := (fun p q => ((hL.below (below2 _ p q)).2 2 _ rfl).1); have y3 := (fun p q => ((hL.below (below2 _ p q)).2 3 _ rfl).1); have HL := Lib.hid hL; clear hb hL) | (go_at_call 28; refine (proper_any _ _ _ _ true _ HP.out).mono ?_; rintro e w2 ⟨rfl, rfl⟩))

  have hL1 : Law1 w m (w1.heap.size + 1 + 1 + 1) (w1.heap.size + 1 + 1) (bxs (w1.heap.size + 1 + 1) (.slice a0 n0 c0) (.slice a1 n1 c1) (.slice a2 n2 c2) (.slice a3 n3 c3) 0) (((((w1.alloc (.cells (mL m).toArray 36)).alloc (.cells (mL m).toArray 22)).alloc (.cells (mL m).toArray 36)).alloc (.cells #[msV (w1.heap.size + 1 + 1), nilS, nilS, nilS, nilS] 71))) := by
    have hB := HB.out
    have hb4 := bel_alloc (.cells #[msV (w1.heap.size + 1 + 1), nilS, nilS, nilS, nilS] 71) (below3 w1 (.cells (mL m).toArray 36) (.cells (mL m).toArray 22) (.cells (mL m).toArray 36))
    refine ⟨((below2 _ _ _).trans (hB.mono (by simp <;> omega))).trans (hb4.mono (by omega)), HL.out.below hb4, listAt_new _ _ (by simp) [msV (w1.heap.size + 1 + 1), nilS, nilS, nilS, nilS] 71, (listAt_new _ _ (by simp) (mL m) 36).below (below1 _ _), by omega, by omega⟩
  have hO1 : ListAt (((((w1.alloc (.cells (mL m).toArray 36)).alloc (.cells (mL m).toArray 22)).alloc (.cells (mL m).toArray 36)).alloc (.cells #[msV (w1.heap.size + 1 + 1), nilS, nilS, nilS, nilS] 71))) (w.heap.size + 1) [.slice a0 n0 c0, .slice a1 n1 c1, .slice a2 n2 c2, .slice a3 n3 c3] :=
    ((listAt_new _ _ (by simp) [.slice a0 n0 c0, .slice a1 n1 c1, .slice a2 n2 c2, .slice a3 n3 c3] 69).below HB.out).below (bel_alloc _ (below3 _ _ _ _))
  clear x0 x1 x2 x3 y0 y1 y2 y3 hsz
  refine wp_abs26 (fun W => Law1 w m (w1.heap.size + 1 + 1 + 1) (w1.heap.size + 1 + 1) (bxs (w1.heap.size + 1 + 1) (.slice a0 n0 c0) (.slice a1 n1 c1) (.slice a2 n2 c2) (.slice a3 n3 c3) 0) W ∧ ListAt W (w.heap.size + 1) [.slice a0 n0 c0, .slice a1 n1 c1, .slice a2 n2 c2, .slice a3 n3 c3]) ⟨hL1, hO1⟩ ?_
  clear hL1 hO1 HB HL
  generalize w1.heap.size + 1 + 1 + 1 = bb
  generalize w1.heap.size + 1 + 1 = sb
  rintro W ⟨hL1, hO⟩
  have z0 := (hO.2 0 _ rfl).1
  have z1 := (hO.2 1 _ rfl).1
  have z2 := (hO.2 2 _ rfl).1
  have z3 := (hO.2 3 _ rfl).1
  have HL1 := Lib.hid hL1
  clear hO hL1
  go_wp2_with fail
  clear z0 z1 z2 z3
  go_loopw [22] (fun i wr => ∃ k : Nat, k ≤ 4 ∧ i = .int .i64 k ∧ Hid (Law1 w m bb sb (bxs sb (.slice a0 n0 c0) (.slice a1 n1 c1) (.slice a2 n2 c2) (.slice a3 n3 c3) k) wr ∧ (1 ≤ k → GoodA n0 o0) ∧ (2 ≤ k → GoodA n1 o1) ∧ (3 ≤ k → GoodA n2 o2) ∧ (4 ≤ k → GoodA n3 o3))) (fun i _ => 4 - (intOf i).toNat)
  case atStart => exact ⟨0, Nat.zero_le _, rfl, Lib.hid ⟨HL1.out, by omega, by omega, by omega, by omega⟩⟩
  case round =>
    obtain ⟨k, hk, rfl, hS⟩ := hrel
    have hk5 : k = 0 ∨ k = 1 ∨ k = 2 ∨ k = 3 ∨ k = 4 := by omega
    rcases hk5 with rfl | rfl | rfl | rfl | rfl
    · by_cases hl : n0 ≤ 1
      · have h01 : n0 = 0 ∨ n0 = 1 := by omega
        rcases h01 with rfl | rfl
        · have hg : GoodA 0 o0 := ⟨by omega, fun r e => by rw [H0.out.2.1 rfl] at e; cases e⟩
          have HG := Lib.hid hg
          have cz := (hS.out.1.2.2.1.2 1 _ rfl).1
          have fz := (hS.out.1.2.2.1.2 1 _ rfl).2
          clear hg hl
          go_wp2_with (refine wpList_index (by rfl) 69 (.tmp 21) (.tmp 22) (by rfl) _ (.int .i64 ((0 : Nat) : Int)) (.slice a0 0 c0) (by rfl) (by rfl) (idx69 _ 0 _ (by decide) (by rfl) _) ?_)
          go_roundw
          case rel => exact ⟨0 + 1, by omega, by go_num, Lib.hid ⟨hS.out.1.set 1 _, fun _ => HG.out, by omega, by omega, by omega⟩⟩
          case measure => simp [intOf] <;> omega
        · obtain ⟨r, hor, hbx⟩ := H0.out.2.2 rfl
          obtain ⟨pp, cap, he, hlie⟩ := hbx.below hS.out.1.1
          obtain ⟨pb, po, ps⟩ := pp
          injection he with he1 he2 he3
          subst he1
          obtain ⟨hpl, q0, q1, q2, q3⟩ := hlie
          cases hpr : propQ r
          · have HPR := Lib.hid hpr
            clear hpr hl hor he3 he2 hbx
            go_wp2_with (first | (refine wpList_index (by rfl) 69 (.tmp 21) (.tmp 22) (by rfl) _ (.int .i64 ((0 : Nat) : Int)) (.slice (some ⟨pb, po, ps⟩) 1 c0) (by rfl) (by rfl) (idx69 _ 0 _ (by decide) (by rfl) _) ?_) | (go_at_call 28; refine (proper_any _ _ _ _ false _ HPR.out).mono ?_; rintro e w2 ⟨rfl, rfl⟩))
            go_ret
            exact ⟨rfl, hS.out.1.1.trans ((below2 _ _ _).mono hS.out.1.1.size)⟩
          · have HPR := Lib.hid hpr
            have hg : GoodA 1 o0 := ⟨by omega, fun r' e => by rw [hor] at e; cases e; exact hpr⟩
            have HG := Lib.hid hg
            have cz := fun x1 x2 => ((hS.out.1.2.2.1.below (below2 _ x1 x2)).2 1 _ rfl).1
            have fz := fun x1 x2 => ((hS.out.1.2.2.1.below (below2 _ x1 x2)).2 1 _ rfl).2
            clear hpr hl hor he3 he2 hbx hg
            go_wp2_with (first | (refine wpList_index (by rfl) 69 (.tmp 21) (.tmp 22) (by rfl) _ (.int .i64 ((0 : Nat) : Int)) (.slice (some ⟨pb, po, ps⟩) 1 c0) (by rfl) (by rfl) (idx69 _ 0 _ (by decide) (by rfl) _) ?_) | (go_at_call 28; refine (proper_any _ _ _ _ true _ HPR.out).mono ?_; rintro e w2 ⟨rfl, rfl⟩))
            go_roundw
            case rel => exact ⟨0 + 1, by omega, by go_num, Lib.hid ⟨(hS.out.1.below (below2 _ _ _)).set 1 _, fun _ => HG.out, by omega, by omega, by omega⟩⟩
            case measure => simp [intOf] <;> omega
      · have d : decide ((1 : Int) < (n0 : Int)) = true := by simp; omega
        clear hl
        go_wp2_with (refine wpList_index (by rfl) 69 (.tmp 21) (.tmp 22) (by rfl) _ (.int .i64 ((0 : Nat) : Int)) (.slice a0 n0 c0) (by rfl) (by rfl) (idx69 _ 0 _ (by decide) (by rfl) _) ?_)
        go_ret
        exact ⟨rfl, hS.out.1.1⟩
    · by_cases hl : n1 ≤ 1
      · have h01 : n1 = 0 ∨ n1 = 1 := by omega
        rcases h01 with rfl | rfl
        · have hg : GoodA 0 o1 := ⟨by omega, fun r e => by rw [H1.out.2.1 rfl] at e; cases e⟩
          have HG := Lib.hid hg
          have cz := (hS.out.1.2.2.1.2 2 _ rfl).1
          have fz := (hS.out.1.2.2.1.2 2 _ rfl).2
          clear hg hl
          go_wp2_with (refine wpList_index (by rfl) 69 (.tmp 21) (.tmp 22) (by rfl) _ (.int .i64 ((1 : Nat) : Int)) (.slice a1 0 c1) (by rfl) (by rfl) (idx69 _ 1 _ (by decide) (by rfl) _) ?_)
          go_roundw
          case rel => exact ⟨1 + 1, by omega, by go_num, Lib.hid ⟨hS.out.1.set 2 _, fun _ => hS.out.2.1 (by omega), fun _ => HG.out, by omega, by omega⟩⟩
          case measure => simp [intOf] <;> omega
        · obtain ⟨r, hor, hbx⟩ := H1.out.2.2 rfl
          obtain ⟨pp, cap, he, hlie⟩ := hbx.below hS.out.1.1
          obtain ⟨pb, po, ps⟩ := pp
          injection he with he1 he2 he3
          subst he1
          obtain ⟨hpl, q0, q1, q2, q3⟩ := hlie
          cases hpr : propQ r
          · have HPR := Lib.hid hpr
            clear hpr hl hor he3 he2 hbx
            go_wp2_with (first | (refine wpList_index (by rfl) 69 (.tmp 21) (.tmp 22) (by rfl) _ (.int .i64 ((1 : Nat) : Int)) (.slice (some ⟨pb, po, ps⟩) 1 c1) (by rfl) (by rfl) (idx69 _ 1 _ (by decide) (by rfl) _) ?_) | (go_at_call 28; refine (proper_any _ _ _ _ false _ HPR.out).mono ?_; rintro e w2 ⟨rfl, rfl⟩))
            go_ret
            exact ⟨rfl, hS.out.1.1.trans ((below2 _ _ _).mono hS.out.1.1.size)⟩
          · have HPR := Lib.hid hpr
            have hg : GoodA 1 o1 := ⟨by omega, fun r' e => by rw [hor] at e; cases e; exact hpr⟩
            have HG := Lib.hid hg
            have cz := fun x1 x2 => ((hS.out.1.2.2.1.below (below2 _ x1 x2)).2 2 _ rfl).1
            have fz := fun x1 x2 => ((hS.out.1.2.2.1.below (below2 _ x1 x2)).2 2 _ rfl).2
            clear hpr hl hor he3 he2 hbx hg
            go_wp2_with (first | (refine wpList_index (by rfl) 69 (.tmp 21) (.tmp 22) (by rfl) _ (.int .i64 ((1 : Nat) : Int)) (.slice (some ⟨pb, po, ps⟩) 1 c1) (by rfl) (by rfl) (idx69 _ 1 _ (by decide) (by rfl) _) ?_) | (go_at_call 28; refine (proper_any _ _ _ _ true _ HPR.out).mono ?_; rintro e w2 ⟨rfl, rfl⟩))
            go_roundw
            case rel => exact ⟨1 + 1, by omega, by go_num, Lib.hid ⟨(hS.out.1.below (below2 _ _ _)).set 2 _, fun _ => hS.out.2.1 (by omega), fun _ => HG.out, by omega, by omega⟩⟩
            case measure => simp [intOf] <;> omega
      · have d : decide ((1 : Int) < (n1 : Int)) = true := by simp; omega
        clear hl
        go_wp2_with (refine wpList_index (by rfl) 69 (.tmp 21) (.tmp 22) (by rfl) _ (.int .i64 ((1 : Nat) : Int)) (.slice a1 n1 c1) (by rfl) (by rfl) (idx69 _ 1 _ (by decide) (by rfl) _) ?_)
        go_ret
        exact ⟨rfl, hS.out.1.1⟩
    · by_cases hl : n2 ≤ 1
      · have h01 : n2 = 0 ∨ n2 = 1 := by omega
        rcases h01 with rfl | rfl
        · have hg : GoodA 0 o2 := ⟨by omega, fun r e => by rw [H2.out.2.1 rfl] at e; cases e⟩
          have HG := Lib.hid hg
          have cz := (hS.out.1.2.2.1.2 3 _ rfl).1
          have fz := (hS.out.1.2.2.1.2 3 _ rfl).2
          clear hg hl
          go_wp2_with (refine wpList_index (by rfl) 69 (.tmp 21) (.tmp 22) (by rfl) _ (.int .i64 ((2 : Nat) : Int)) (.slice a2 0 c2) (by rfl) (by rfl) (idx69 _ 2 _ (by decide) (by rfl) _) ?_)
          go_roundw
          case rel => exact ⟨2 + 1, by omega, by go_num, Lib.hid ⟨hS.out.1.set 3 _, fun _ => hS.out.2.1 (by omega), fun _ => hS.out.2.2.1 (by omega), fun _ => HG.out, by omega⟩⟩
          case measure => simp [intOf] <;> omega
        · obtain ⟨r, hor, hbx⟩ := H2.out.2.2 rfl
          obtain ⟨pp, cap, he, hlie⟩ := hbx.below hS.out.1.1
          obtain ⟨pb, po, ps⟩ := pp
          injection he with he1 he2 he3
          subst he1
          obtain ⟨hpl, q0, q1, q2, q3⟩ := hlie
          cases hpr : propQ r
          · have HPR := Lib.hid hpr
            clear hpr hl hor he3 he2 hbx
            go_wp2_with (first | (refine wpList_index (by rfl) 69 (.tmp 21) (.tmp 22) (by rfl) _ (.int .i64 ((2 : Nat) : Int)) (.slice (some ⟨pb, po, ps⟩) 1 c2) (by rfl) (by rfl) (idx69 _ 2 _ (by decide) (by rfl) _) ?_) | (go_at_call 28; refine (proper_any _ _ _ _ false _ HPR.out).mono ?_; rintro e w2 ⟨rfl, rfl⟩))
            go_ret
            exact ⟨rfl, hS.out.1.1.trans ((below2 _ _ _).mono hS.out.1.1.size)⟩
          · have HPR := Lib.hid hpr
            have hg : GoodA 1 o2 := ⟨by omega, fun r' e => by rw [hor] at e; cases e; exact hpr⟩
            have HG := Lib.hid hg
            have cz := fun x1 x2 => ((hS.out.1.2.2.1.below (below2 _ x1 x2)).2 3 _ rfl).1
            have fz := fun x1 x2 => ((hS.out.1.2.2.1.below (below2 _ x1 x2)).2 3 _ rfl).2
            clear hpr hl hor he3 he2 hbx hg
            go_wp2_with (first | (refine wpList_index (by rfl) 69 (.tmp 21) (.tmp 22) (by rfl) _ (.int .i64 ((2 : Nat) : Int)) (.slice (some ⟨pb, po, ps⟩) 1 c2) (by rfl) (by rfl) (idx69 _ 2 _ (by decide) (by rfl) _) ?_) | (go_at_call 28; refine (proper_any _ _ _ _ true _ HPR.out).mono ?_; rintro e w2 ⟨rfl, rfl⟩))
            go_roundw
            case rel => exact ⟨2 + 1, by omega, by go_num, Lib.hid ⟨(hS.out.1.below (below2 _ _ _)).set 3 _, fun _ => hS.out.2.1 (by omega), fun _ => hS.out.2.2.1 (by omega), fun _ => HG.out, by omega⟩⟩
            case measure => simp [intOf] <;> omega
      · have d : decide ((1 : Int) < (n2 : Int)) = true := by simp; omega
        clear hl
        go_wp2_with (refine wpList_index (by rfl) 69 (.tmp 21) (.tmp 22) (by rfl) _ (.int .i64 ((2 : Nat) : Int)) (.slice a2 n2 c2) (by rfl) (by rfl) (idx69 _ 2 _ (by decide) (by rfl) _) ?_)
        go_ret
        exact ⟨rfl, hS.out.1.1⟩
    · by_cases hl : n3 ≤ 1
      · have h01 : n3 = 0 ∨ n3 = 1 := by omega
        rcases h01 with rfl | rfl
        · have hg : GoodA 0 o3 := ⟨by omega, fun r e => by rw [H3.out.2.1 rfl] at e; cases e⟩
          have HG := Lib.hid hg
          have cz := (hS.out.1.2.2.1.2 4 _ rfl).1
          have fz := (hS.out.1.2.2.1.2 4 _ rfl).2
          clear hg hl
          go_wp2_with (refine wpList_index (by rfl) 69 (.tmp 21) (.tmp 22) (by rfl) _ (.int .i64 ((3 : Nat) : Int)) (.slice a3 0 c3) (by rfl) (by rfl) (idx69 _ 3 _ (by decide) (by rfl) _) ?_)
          go_roundw
          case rel => exact ⟨3 + 1, by omega, by go_num, Lib.hid ⟨hS.out.1.set 4 _, fun _ => hS.out.2.1 (by omega), fun _ => hS.out.2.2.1 (by omega), fun _ => hS.out.2.2.2.1 (by omega), fun _ => HG.out⟩⟩
          case measure => simp [intOf] <;> omega
        · obtain ⟨r, hor, hbx⟩ := H3.out.2.2 rfl
          obtain ⟨pp, cap, he, hlie⟩ := hbx.below hS.out.1.1
          obtain ⟨pb, po, ps⟩ := pp
          injection he with he1 he2 he3
          subst he1
          obtain ⟨hpl, q0, q1, q2, q3⟩ := hlie
          cases hpr : propQ r
          · have HPR := Lib.hid hpr
            clear hpr hl hor he3 he2 hbx
            go_wp2_with (first | (refine wpList_index (by rfl) 69 (.tmp 21) (.tmp 22) (by rfl) _ (.int .i64 ((3 : Nat) : Int)) (.slice (some ⟨pb, po, ps⟩) 1 c3) (by rfl) (by rfl) (idx69 _ 3 _ (by decide) (by rfl) _) ?_) | (go_at_call 28; refine (proper_any _ _ _ _ false _ HPR.out).mono ?_; rintro e w2 ⟨rfl, rfl⟩))
            go_ret
            exact ⟨rfl, hS.out.1.1.trans ((below2 _ _ _).mono hS.out.1.1.size)⟩
          · have HPR := Lib.hid hpr
            have hg : GoodA 1 o3 := ⟨by omega, fun r' e => by rw [hor] at e; cases e; exact hpr⟩
            have HG := Lib.hid hg
            have cz := fun x1 x2 => ((hS.out.1.2.2.1.below (below2 _ x1 x2)).2 4 _ rfl).1
            have fz := fun x1 x2 => ((hS.out.1.2.2.1.below (below2 _ x1 x2)).2 4 _ rfl).2
            clear hpr hl hor he3 he2 hbx hg
            go_wp2_with (first | (refine wpList_index (by rfl) 69 (.tmp 21) (.tmp 22) (by rfl) _ (.int .i64 ((3 : Nat) : Int)) (.slice (some ⟨pb, po, ps⟩) 1 c3) (by rfl) (by rfl) (idx69 _ 3 _ (by decide) (by rfl) _) ?_) | (go_at_call 28; refine (proper_any _ _ _ _ true _ HPR.out).mono ?_; rintro e w2 ⟨rfl, rfl⟩))
            go_roundw
            case rel => exact ⟨3 + 1, by omega, by go_num, Lib.hid ⟨(hS.out.1.below (below2 _ _ _)).set 4 _, fun _ => hS.out.2.1 (by omega), fun _ => hS.out.2.2.1 (by omega), fun _ => hS.out.2.2.2.1 (by omega), fun _ => HG.out⟩⟩
            case measure => simp [intOf] <;> omega
      · have d : decide ((1 : Int) < (n3 : Int)) = true := by simp; omega
        clear hl
        go_wp2_with (refine wpList_index (by rfl) 69 (.tmp 21) (.tmp 22) (by rfl) _ (.int .i64 ((3 : Nat) : Int)) (.slice a3 n3 c3) (by rfl) (by rfl) (idx69 _ 3 _ (by decide) (by rfl) _) ?_)
        go_ret
        exact ⟨rfl, hS.out.1.1⟩
    · obtain ⟨hL, g0, g1, g2, g3⟩ := hS.out
      have G0 := Lib.hid (g0 (by omega))
      have G1 := Lib.hid (g1 (by omega))
      have G2 := Lib.hid (g2 (by omega))
      have G3 := Lib.hid (g3 (by omega))
      have HL := Lib.hid hL
      clear g0 g1 g2 g3 hL hS HL1
      have x0 := (HL.out.2.1.2 0 _ rfl).1
      have x1 := (HL.out.2.1.2 1 _ rfl).1
      have x2 := (HL.out.2.1.2 2 _ rfl).1
      have x3 := (HL.out.2.1.2 3 _ rfl).1
      have hbw := HL.out.2.2.1.1
      go_upto_region 14 with fail
      have hC : LawC w m m bb sb wr.heap.size [msV sb, .slice a0 n0 c0, .slice a1 n1 c1, .slice a2 n2 c2, .slice a3 n3 c3] (wr.alloc (.cells (mL m).toArray 36)) := ⟨HL.out.below (below1 _ _), listAt_new _ _ rfl (mL m) 36, hbw⟩
      refine wp_abs26 (fun W => LawC w m m bb sb wr.heap.size [msV sb, .slice a0 n0 c0, .slice a1 n1 c1, .slice a2 n2 c2, .slice a3 n3 c3] W) hC ?_
      clear hC HL x0 x1 x2 x3 hbw
      generalize wr.heap.size = cb
      intro W2 hC
      obtain ⟨cr, hcr⟩ : ∃ cr, o0.getD m = cr := ⟨_, rfl⟩
      have HCR := Lib.hid hcr
      clear hcr
      have y1 := (hC.1.2.2.1.2 1 _ rfl).1
      go_upto_if 50 with fail
      go_cut [8] (fun s8 wx => s8 = ptrV cb ∧ LawC w m cr bb sb cb [msV sb, .slice a0 n0 c0, .slice a1 n1 c1, .slice a2 n2 c2, .slice a3 n3 c3] wx)
      case first =>
        have h01 : n0 = 0 ∨ n0 = 1 := by have := G0.out.1; omega
        rcases h01 with rfl | rfl
        · have e : m = cr := by rw [← HCR.out, H0.out.2.1 rfl]; rfl
          subst e
          go_wp2_with fail
          go_meet
          exact ⟨rfl, hC⟩
        · obtain ⟨r, hor, hbx⟩ := H0.out.2.2 rfl
          have e : r = cr := by rw [← HCR.out, hor]; rfl
          subst e
          obtain ⟨pp, cap, he, hlie⟩ := hbx.below hC.1.1
          obtain ⟨pb, po, ps⟩ := pp
          injection he with he1 he2 he3
          subst he1
          obtain ⟨hpl, q0, q1, q2, q3⟩ := hlie
          have z0 := (hC.2.1.2 0 _ rfl).1
          have z1 := (hC.2.1.2 1 _ rfl).1
          have z2 := (hC.2.1.2 2 _ rfl).1
          have z3 := (hC.2.1.2 3 _ rfl).1
          have w0 := (hC.2.1.2 0 _ rfl).2
          have w1 := (hC.2.1.2 1 _ rfl).2
          have w2 := (hC.2.1.2 2 _ rfl).2
          have w3 := (hC.2.1.2 3 _ rfl).2
          clear hor he3 he2 hbx
          go_wp2_with fail
          go_meet
          exact ⟨rfl, hC.1.far4 hC.2.2, list_set4 hC.2.1, hC.2.2⟩
      case rest =>
        clear hC y1
        obtain ⟨rfl, hC⟩ := hcut
        have HC := Lib.hid hC
        have y0 := (hC.1.2.2.1.2 0 _ rfl).1
        have y1 := (hC.1.2.2.1.2 1 _ rfl).1
        have y2 := (hC.1.2.2.1.2 2 _ rfl).1
        have y3 := (hC.1.2.2.1.2 3 _ rfl).1
        have y4 := (hC.1.2.2.1.2 4 _ rfl).1
        clear hC
        go_upto_region 17 with (go_at_call 48; refine (effective (m := m) (o1 := o0) (o2 := o1) (o3 := o2) (o4 := o3) ⟨_, 1, rfl, lies_of HC.out.1.2.2.2.1⟩ ((H0.out.box G0.out.1).below HC.out.1.1) ((H1.out.box G1.out.1).below HC.out.1.1) ((H2.out.box G2.out.1).below HC.out.1.1) ((H3.out.box G3.out.1).below HC.out.1.1)).mono ?_; rintro e w5 ⟨_, _, _, _, _, rfl, hB5, ⟨b0, rfl, _, R0⟩, ⟨b1, rfl, _, R1⟩, ⟨b2, rfl, _, R2⟩, ⟨b3, rfl, _, R3⟩, ⟨b4, rfl, _, R4⟩⟩; rw [HCR.out] at R1 R2 R3 R4; have HB5 := Lib.hid hB5; have HR := Lib.hid (And.intro R0 (And.intro R1 (And.intro R2 (And.intro R3 R4)))); clear hB5 R0 R1 R2 R3 R4)
        have hC3 : LawC w m cr bb sb cb [msV sb, .slice a0 n0 c0, .slice a1 n1 c1, .slice a2 n2 c2, .slice a3 n3 c3] (w5.alloc (.cells #[msV b0, msV b1, msV b2, msV b3, msV b4] 71)) := (HC.out.below HB5.out).below (below1 _ _)
        have hG3 : LawG w5.heap.size b0 b1 b2 b3 b4 m cr (o1.getD cr) (o2.getD cr) (o3.getD cr) (w5.alloc (.cells #[msV b0, msV b1, msV b2, msV b3, msV b4] 71)) := ⟨listAt_new _ _ rfl [msV b0, msV b1, msV b2, msV b3, msV b4] 71, HR.out.1.below (below1 _ _), HR.out.2.1.below (below1 _ _), HR.out.2.2.1.below (below1 _ _), HR.out.2.2.2.1.below (below1 _ _), HR.out.2.2.2.2.below (below1 _ _)⟩
        refine wp_abs26 (fun W => LawC w m cr bb sb cb [msV sb, .slice a0 n0 c0, .slice a1 n1 c1, .slice a2 n2 c2, .slice a3 n3 c3] W ∧ LawG w5.heap.size b0 b1 b2 b3 b4 m cr (o1.getD cr) (o2.getD cr) (o3.getD cr) W) ⟨hC3, hG3⟩ ?_
        clear hC3 hG3 HC HB5 HR y0 y1 y2 y3 y4
        generalize w5.heap.size = gb
        rintro W3 ⟨hC3, hG3⟩
        have HC3 := Lib.hid hC3
        have HG3 := Lib.hid hG3
        clear hC3 hG3
        go_wp2_with fail
        go_loopw [57] (fun i wr => ∃ k : Nat, k ≤ 5 ∧ i = .int .i64 k ∧ Hid (Below W3.heap.size W3 wr)) (fun i _ => 5 - (intOf i).toNat)
        case atStart => exact ⟨0, Nat.zero_le _, rfl, Lib.hid (Below.refl _ _)⟩
        case round =>
          obtain ⟨k, hk, rfl, hS⟩ := hrel
          have hk5 : k = 0 ∨ k = 1 ∨ k = 2 ∨ k = 3 ∨ k = 4 ∨ k = 5 := by omega
          rcases hk5 with rfl | rfl | rfl | rfl | rfl | rfl
          · skip
            have hC := HC3.out.below hS.out
            have y0 := (hC.2.1.2 0 _ rfl).1
            have y1 := (hC.2.1.2 1 _ rfl).1
            have y2 := (hC.2.1.2 2 _ rfl).1
            have y3 := (hC.2.1.2 3 _ rfl).1
            clear hC
            go_upto_region 21 with fail
            have hsz := hS.out.size
            refine wp_abs26 (fun W => Below W3.heap.size W3 W ∧ ListAt W wr.heap.size (mL cr)) ⟨bel_alloc _ hS.out, listAt_new _ _ rfl (mL cr) 36⟩ ?_
            generalize wr.heap.size = tb at *
            clear hS y0 y1 y2 y3
            rintro W ⟨hT, hL⟩
            have hC := HC3.out.below hT
            have q0 := (hC.1.2.1.2 0 _ rfl).1
            have q1 := (hC.1.2.1.2 1 _ rfl).1
            have q2 := (hC.1.2.1.2 2 _ rfl).1
            have q3 := (hC.1.2.1.2 3 _ rfl).1
            clear hC
            have z0 := (hL.2 0 _ rfl).1
            have z1 := (hL.2 1 _ rfl).1
            have z2 := (hL.2 2 _ rfl).1
            have z3 := (hL.2 3 _ rfl).1
            have f0 := (hL.2 0 _ rfl).2
            have f1 := (hL.2 1 _ rfl).2
            have f2 := (hL.2 2 _ rfl).2
            have f3 := (hL.2 3 _ rfl).2
            have HT := Lib.hid hT
            have HLL := Lib.hid hL
            clear hT hL
            go_upto_region 25 with fail
            have hT : Below W3.heap.size W3 ((((W.setCell ⟨tb, 0, none⟩ (.float .f64 (m.x1))).setCell ⟨tb, 1, none⟩ (.float .f64 (m.y1))).setCell ⟨tb, 2, none⟩ (.float .f64 (m.x2))).setCell ⟨tb, 3, none⟩ (.float .f64 (m.y2))) := (((HT.out.setCell (p := ⟨tb, 0, none⟩) hsz _).setCell (p := ⟨tb, 1, none⟩) hsz _).setCell (p := ⟨tb, 2, none⟩) hsz _).setCell (p := ⟨tb, 3, none⟩) hsz _
            have hL : ListAt ((((W.setCell ⟨tb, 0, none⟩ (.float .f64 (m.x1))).setCell ⟨tb, 1, none⟩ (.float .f64 (m.y1))).setCell ⟨tb, 2, none⟩ (.float .f64 (m.x2))).setCell ⟨tb, 3, none⟩ (.float .f64 (m.y2))) tb (mL m) := list_set4 HLL.out
            refine wp_abs26 (fun W => Below W3.heap.size W3 W ∧ ListAt W tb (mL m)) ⟨hT, hL⟩ ?_
            clear hT hL HT HLL z0 z1 z2 z3 f0 f1 f2 f3
            rintro W9 ⟨hT, hL⟩
            clear q0 q1 q2 q3
            have hG := HG3.out.below hT
            have gi := (hG.1.2 0 _ rfl).1
            obtain ⟨_, q0, q1, q2, q3⟩ := hG.2.1
            have z0 := (hL.2 0 _ rfl).1
            have z1 := (hL.2 1 _ rfl).1
            have z2 := (hL.2 2 _ rfl).1
            have z3 := (hL.2 3 _ rfl).1
            have hneq := neq_self HP.out
            have HT := Lib.hid hT
            clear hT hG hL
            go_quiet (fail)
            go_wp2_with fail
            go_roundw
            case rel => exact ⟨0 + 1, by omega, by go_num, Lib.hid (bel_drewN _ HT.out)⟩
            case measure => simp [intOf] <;> omega
          · skip
            have hC := HC3.out.below hS.out
            have y0 := (hC.2.1.2 0 _ rfl).1
            have y1 := (hC.2.1.2 1 _ rfl).1
            have y2 := (hC.2.1.2 2 _ rfl).1
            have y3 := (hC.2.1.2 3 _ rfl).1
            clear hC
            go_upto_region 21 with fail
            have hsz := hS.out.size
            refine wp_abs26 (fun W => Below W3.heap.size W3 W ∧ ListAt W wr.heap.size (mL cr)) ⟨bel_alloc _ hS.out, listAt_new _ _ rfl (mL cr) 36⟩ ?_
            generalize wr.heap.size = tb at *
            clear hS y0 y1 y2 y3
            rintro W ⟨hT, hL⟩
            have hC := HC3.out.below hT
            have bi := (hC.1.2.2.1.2 1 _ rfl).1
            have h01 : n0 = 0 ∨ n0 = 1 := by have := G0.out.1; omega
            rcases h01 with rfl | rfl
            · clear hC
              go_upto_region 25 with fail
              clear bi
              have hG := HG3.out.below hT
              have gi := (hG.1.2 1 _ rfl).1
              obtain ⟨_, q0, q1, q2, q3⟩ := hG.2.2.1
              have z0 := (hL.2 0 _ rfl).1
              have z1 := (hL.2 1 _ rfl).1
              have z2 := (hL.2 2 _ rfl).1
              have z3 := (hL.2 3 _ rfl).1
              have hneq := neq_self (show propQ cr = true by rw [← HCR.out]; cases h : o0 with | none => exact HP.out | some r => exact G0.out.2 r h)
              have HT := Lib.hid hT
              clear hT hG hL
              go_quiet (fail)
              go_wp2_with fail
              go_roundw
              case rel => exact ⟨1 + 1, by omega, by go_num, Lib.hid (bel_drewN _ HT.out)⟩
              case measure => simp [intOf] <;> omega
            · obtain ⟨r, hor, hbx⟩ := H0.out.2.2 rfl
              have e : r = cr := by rw [← HCR.out, hor]; rfl
              subst e
              obtain ⟨pp, cap, he, hlie⟩ := hbx.below hC.1.1
              obtain ⟨pb, po, ps⟩ := pp
              injection he with he1 he2 he3
              subst he1
              obtain ⟨hpl, q0, q1, q2, q3⟩ := hlie
              have PR := Lib.hid (G0.out.2 _ hor)
              clear hC hor he3 he2 hbx
              have z0 := (hL.2 0 _ rfl).1
              have z1 := (hL.2 1 _ rfl).1
              have z2 := (hL.2 2 _ rfl).1
              have z3 := (hL.2 3 _ rfl).1
              have f0 := (hL.2 0 _ rfl).2
              have f1 := (hL.2 1 _ rfl).2
              have f2 := (hL.2 2 _ rfl).2
              have f3 := (hL.2 3 _ rfl).2
              have HT := Lib.hid hT
              have HLL := Lib.hid hL
              clear hT hL
              go_upto_region 25 with fail
              have hT : Below W3.heap.size W3 ((((W.setCell ⟨tb, 0, none⟩ (.float .f64 (r.x1))).setCell ⟨tb, 1, none⟩ (.float .f64 (r.y1))).setCell ⟨tb, 2, none⟩ (.float .f64 (r.x2))).setCell ⟨tb, 3, none⟩ (.float .f64 (r.y2))) := (((HT.out.setCell (p := ⟨tb, 0, none⟩) hsz _).setCell (p := ⟨tb, 1, none⟩) hsz _).setCell (p := ⟨tb, 2, none⟩) hsz _).setCell (p := ⟨tb, 3, none⟩) hsz _
              have hL : ListAt ((((W.setCell ⟨tb, 0, none⟩ (.float .f64 (r.x1))).setCell ⟨tb, 1, none⟩ (.float .f64 (r.y1))).setCell ⟨tb, 2, none⟩ (.float .f64 (r.x2))).setCell ⟨tb, 3, none⟩ (.float .f64 (r.y2))) tb (mL r) := list_set4 HLL.out
              refine wp_abs26 (fun W => Below W3.heap.size W3 W ∧ ListAt W tb (mL r)) ⟨hT, hL⟩ ?_
              clear hT hL HT HLL z0 z1 z2 z3 f0 f1 f2 f3
              rintro W9 ⟨hT, hL⟩
              clear q0 q1 q2 q3 bi
              have hG := HG3.out.below hT
              have gi := (hG.1.2 1 _ rfl).1
              obtain ⟨_, q0, q1, q2, q3⟩ := hG.2.2.1
              have z0 := (hL.2 0 _ rfl).1
              have z1 := (hL.2 1 _ rfl).1
              have z2 := (hL.2 2 _ rfl).1
              have z3 := (hL.2 3 _ rfl).1
              have hneq := neq_self PR.out
              have HT := Lib.hid hT
              clear hT hG hL
              go_quiet (fail)
              go_wp2_with fail
              go_roundw
              case rel => exact ⟨1 + 1, by omega, by go_num, Lib.hid (bel_drewN _ HT.out)⟩
              case measure => simp [intOf] <;> omega
          · skip
            have hC := HC3.out.below hS.out
            have y0 := (hC.2.1.2 0 _ rfl).1
            have y1 := (hC.2.1.2 1 _ rfl).1
            have y2 := (hC.2.1.2 2 _ rfl).1
            have y3 := (hC.2.1.2 3 _ rfl).1
            clear hC
            go_upto_region 21 with fail
            have hsz := hS.out.size
            refine wp_abs26 (fun W => Below W3.heap.size W3 W ∧ ListAt W wr.heap.size (mL cr)) ⟨bel_alloc _ hS.out, listAt_new _ _ rfl (mL cr) 36⟩ ?_
            generalize wr.heap.size = tb at *
            clear hS y0 y1 y2 y3
            rintro W ⟨hT, hL⟩
            have hC := HC3.out.below hT
            have bi := (hC.1.2.2.1.2 2 _ rfl).1
            have h01 : n1 = 0 ∨ n1 = 1 := by have := G1.out.1; omega
            rcases h01 with rfl | rfl
            · clear hC
              go_upto_region 25 with fail
              have eo : o1.getD cr = cr := by rw [H1.out.2.1 rfl]; rfl
              rw [eo] at HG3
              clear bi
              have hG := HG3.out.below hT
              have gi := (hG.1.2 2 _ rfl).1
              obtain ⟨_, q0, q1, q2, q3⟩ := hG.2.2.2.1
              have z0 := (hL.2 0 _ rfl).1
              have z1 := (hL.2 1 _ rfl).1
              have z2 := (hL.2 2 _ rfl).1
              have z3 := (hL.2 3 _ rfl).1
              have hneq := neq_self (show propQ cr = true by rw [← HCR.out]; cases h : o0 with | none => exact HP.out | some r => exact G0.out.2 r h)
              have HT := Lib.hid hT
              clear hT hG hL
              go_quiet (fail)
              go_wp2_with fail
              go_roundw
              case rel => exact ⟨2 + 1, by omega, by go_num, Lib.hid (bel_drewN _ HT.out)⟩
              case measure => simp [intOf] <;> omega
            · obtain ⟨r, hor, hbx⟩ := H1.out.2.2 rfl
              have eo : o1.getD cr = r := by rw [hor]; rfl
              rw [eo] at HG3
              obtain ⟨pp, cap, he, hlie⟩ := hbx.below hC.1.1
              obtain ⟨pb, po, ps⟩ := pp
              injection he with he1 he2 he3
              subst he1
              obtain ⟨hpl, q0, q1, q2, q3⟩ := hlie
              have PR := Lib.hid (G1.out.2 _ hor)
              clear hC hor he3 he2 hbx eo
              have z0 := (hL.2 0 _ rfl).1
              have z1 := (hL.2 1 _ rfl).1
              have z2 := (hL.2 2 _ rfl).1
              have z3 := (hL.2 3 _ rfl).1
              have f0 := (hL.2 0 _ rfl).2
              have f1 := (hL.2 1 _ rfl).2
              have f2 := (hL.2 2 _ rfl).2
              have f3 := (hL.2 3 _ rfl).2
              have HT := Lib.hid hT
              have HLL := Lib.hid hL
              clear hT hL
              go_upto_region 25 with fail
              have hT : Below W3.heap.size W3 ((((W.setCell ⟨tb, 0, none⟩ (.float .f64 (r.x1))).setCell ⟨tb, 1, none⟩ (.float .f64 (r.y1))).setCell ⟨tb, 2, none⟩ (.float .f64 (r.x2))).setCell ⟨tb, 3, none⟩ (.float .f64 (r.y2))) := (((HT.out.setCell (p := ⟨tb, 0, none⟩) hsz _).setCell (p := ⟨tb, 1, none⟩) hsz _).setCell (p := ⟨tb, 2, none⟩) hsz _).setCell (p := ⟨tb, 3, none⟩) hsz _
              have hL : ListAt ((((W.setCell ⟨tb, 0, none⟩ (.float .f64 (r.x1))).setCell ⟨tb, 1, none⟩ (.float .f64 (r.y1))).setCell ⟨tb, 2, none⟩ (.float .f64 (r.x2))).setCell ⟨tb, 3, none⟩ (.float .f64 (r.y2))) tb (mL r) := list_set4 HLL.out
              refine wp_abs26 (fun W => Below W3.heap.size W3 W ∧ ListAt W tb (mL r)) ⟨hT, hL⟩ ?_
              clear hT hL HT HLL z0 z1 z2 z3 f0 f1 f2 f3
              rintro W9 ⟨hT, hL⟩
              clear q0 q1 q2 q3 bi
              have hG := HG3.out.below hT
              have gi := (hG.1.2 2 _ rfl).1
              obtain ⟨_, q0, q1, q2, q3⟩ := hG.2.2.2.1
              have z0 := (hL.2 0 _ rfl).1
              have z1 := (hL.2 1 _ rfl).1
              have z2 := (hL.2 2 _ rfl).1
              have z3 := (hL.2 3 _ rfl).1
              have hneq := neq_self PR.out
              have HT := Lib.hid hT
              clear hT hG hL
              go_quiet (fail)
              go_wp2_with fail
              go_roundw
              case rel => exact ⟨2 + 1, by omega, by go_num, Lib.hid (bel_drewN _ HT.out)⟩
              case measure => simp [intOf] <;> omega
          · skip
            have hC := HC3.out.below hS.out
            have y0 := (hC.2.1.2 0 _ rfl).1
            have y1 := (hC.2.1.2 1 _ rfl).1
            have y2 := (hC.2.1.2 2 _ rfl).1
            have y3 := (hC.2.1.2 3 _ rfl).1
            clear hC
            go_upto_region 21 with fail
            have hsz := hS.out.size
            refine wp_abs26 (fun W => Below W3.heap.size W3 W ∧ ListAt W wr.heap.size (mL cr)) ⟨bel_alloc _ hS.out, listAt_new _ _ rfl (mL cr) 36⟩ ?_
            generalize wr.heap.size = tb at *
            clear hS y0 y1 y2 y3
            rintro W ⟨hT, hL⟩
            have hC := HC3.out.below hT
            have bi := (hC.1.2.2.1.2 3 _ rfl).1
            have h01 : n2 = 0 ∨ n2 = 1 := by have := G2.out.1; omega
            rcases h01 with rfl | rfl
            · clear hC
              go_upto_region 25 with fail
              have eo : o2.getD cr = cr := by rw [H2.out.2.1 rfl]; rfl
              rw [eo] at HG3
              clear bi
              have hG := HG3.out.below hT
              have gi := (hG.1.2 3 _ rfl).1
              obtain ⟨_, q0, q1, q2, q3⟩ := hG.2.2.2.2.1
              have z0 := (hL.2 0 _ rfl).1
              have z1 := (hL.2 1 _ rfl).1
              have z2 := (hL.2 2 _ rfl).1
              have z3 := (hL.2 3 _ rfl).1
              have hneq := neq_self (show propQ cr = true by rw [← HCR.out]; cases h : o0 with | none => exact HP.out | some r => exact G0.out.2 r h)
              have HT := Lib.hid hT
              clear hT hG hL
              go_quiet (fail)
              go_wp2_with fail
              go_roundw
              case rel => exact ⟨3 + 1, by omega, by go_num, Lib.hid (bel_drewN _ HT.out)⟩
              case measure => simp [intOf] <;> omega
            · obtain ⟨r, hor, hbx⟩ := H2.out.2.2 rfl
              have eo : o2.getD cr = r := by rw [hor]; rfl
              rw [eo] at HG3
              obtain ⟨pp, cap, he, hlie⟩ := hbx.below hC.1.1
              obtain ⟨pb, po, ps⟩ := pp
              injection he with he1 he2 he3
              subst he1
              obtain ⟨hpl, q0, q1, q2, q3⟩ := hlie
              have PR := Lib.hid (G2.out.2 _ hor)
              clear hC hor he3 he2 hbx eo
              have z0 := (hL.2 0 _ rfl).1
              have z1 := (hL.2 1 _ rfl).1
              have z2 := (hL.2 2 _ rfl).1
              have z3 := (hL.2 3 _ rfl).1
              have f0 := (hL.2 0 _ rfl).2
              have f1 := (hL.2 1 _ rfl).2
              have f2 := (hL.2 2 _ rfl).2
              have f3 := (hL.2 3 _ rfl).2
              have HT := Lib.hid hT
              have HLL := Lib.hid hL
              clear hT hL
              go_upto_region 25 with fail
              have hT : Below W3.heap.size W3 ((((W.setCell ⟨tb, 0, none⟩ (.float .f64 (r.x1))).setCell ⟨tb, 1, none⟩ (.float .f64 (r.y1))).setCell ⟨tb, 2, none⟩ (.float .f64 (r.x2))).setCell ⟨tb, 3, none⟩ (.float .f64 (r.y2))) := (((HT.out.setCell (p := ⟨tb, 0, none⟩) hsz _).setCell (p := ⟨tb, 1, none⟩) hsz _).setCell (p := ⟨tb, 2, none⟩) hsz _).setCell (p := ⟨tb, 3, none⟩) hsz _
              have hL : ListAt ((((W.setCell ⟨tb, 0, none⟩ (.float .f64 (r.x1))).setCell ⟨tb, 1, none⟩ (.float .f64 (r.y1))).setCell ⟨tb, 2, none⟩ (.float .f64 (r.x2))).setCell ⟨tb, 3, none⟩ (.float .f64 (r.y2))) tb (mL r) := list_set4 HLL.out
              refine wp_abs26 (fun W => Below W3.heap.size W3 W ∧ ListAt W tb (mL r)) ⟨hT, hL⟩ ?_
              clear hT hL HT HLL z0 z1 z2 z3 f0 f1 f2 f3
              rintro W9 ⟨hT, hL⟩
              clear q0 q1 q2 q3 bi
              have hG := HG3.out.below hT
              have gi := (hG.1.2 3 _ rfl).1
              obtain ⟨_, q0, q1, q2, q3⟩ := hG.2.2.2.2.1
              have z0 := (hL.2 0 _ rfl).1
              have z1 := (hL.2 1 _ rfl).1
              have z2 := (hL.2 2 _ rfl).1
              have z3 := (hL.2 3 _ rfl).1
              have hneq := neq_self PR.out
              have HT := Lib.hid hT
              clear hT hG hL
              go_quiet (fail)
              go_wp2_with fail
              go_roundw
              case rel => exact ⟨3 + 1, by omega, by go_num, Lib.hid (bel_drewN _ HT.out)⟩
              case measure => simp [intOf] <;> omega
          · skip
            have hC := HC3.out.below hS.out
            have y0 := (hC.2.1.2 0 _ rfl).1
            have y1 := (hC.2.1.2 1 _ rfl).1
            have y2 := (hC.2.1.2 2 _ rfl).1
            have y3 := (hC.2.1.2 3 _ rfl).1
            clear hC
            go_upto_region 21 with fail
            have hsz := hS.out.size
            refine wp_abs26 (fun W => Below W3.heap.size W3 W ∧ ListAt W wr.heap.size (mL cr)) ⟨bel_alloc _ hS.out, listAt_new _ _ rfl (mL cr) 36⟩ ?_
            generalize wr.heap.size = tb at *
            clear hS y0 y1 y2 y3
            rintro W ⟨hT, hL⟩
            have hC := HC3.out.below hT
            have bi := (hC.1.2.2.1.2 4 _ rfl).1
            have h01 : n3 = 0 ∨ n3 = 1 := by have := G3.out.1; omega
            rcases h01 with rfl | rfl
            · clear hC
              go_upto_region 25 with fail
              have eo : o3.getD cr = cr := by rw [H3.out.2.1 rfl]; rfl
              rw [eo] at HG3
              clear bi
              have hG := HG3.out.below hT
              have gi := (hG.1.2 4 _ rfl).1
              obtain ⟨_, q0, q1, q2, q3⟩ := hG.2.2.2.2.2
              have z0 := (hL.2 0 _ rfl).1
              have z1 := (hL.2 1 _ rfl).1
              have z2 := (hL.2 2 _ rfl).1
              have z3 := (hL.2 3 _ rfl).1
              have hneq := neq_self (show propQ cr = true by rw [← HCR.out]; cases h : o0 with | none => exact HP.out | some r => exact G0.out.2 r h)
              have HT := Lib.hid hT
              clear hT hG hL
              go_quiet (fail)
              go_wp2_with fail
              go_roundw
              case rel => exact ⟨4 + 1, by omega, by go_num, Lib.hid (bel_drewN _ HT.out)⟩
              case measure => simp [intOf] <;> omega
            · obtain ⟨r, hor, hbx⟩ := H3.out.2.2 rfl
              have eo : o3.getD cr = r := by rw [hor]; rfl
              rw [eo] at HG3
              obtain ⟨pp, cap, he, hlie⟩ := hbx.below hC.1.1
              obtain ⟨pb, po, ps⟩ := pp
              injection he with he1 he2 he3
              subst he1
              obtain ⟨hpl, q0, q1, q2, q3⟩ := hlie
              have PR := Lib.hid (G3.out.2 _ hor)
              clear hC hor he3 he2 hbx eo
              have z0 := (hL.2 0 _ rfl).1
              have z1 := (hL.2 1 _ rfl).1
              have z2 := (hL.2 2 _ rfl).1
              have z3 := (hL.2 3 _ rfl).1
              have f0 := (hL.2 0 _ rfl).2
              have f1 := (hL.2 1 _ rfl).2
              have f2 := (hL.2 2 _ rfl).2
              have f3 := (hL.2 3 _ rfl).2
              have HT := Lib.hid hT
              have HLL := Lib.hid hL
              clear hT hL
              go_upto_region 25 with fail
              have hT : Below W3.heap.size W3 ((((W.setCell ⟨tb, 0, none⟩ (.float .f64 (r.x1))).setCell ⟨tb, 1, none⟩ (.float .f64 (r.y1))).setCell ⟨tb, 2, none⟩ (.float .f64 (r.x2))).setCell ⟨tb, 3, none⟩ (.float .f64 (r.y2))) := (((HT.out.setCell (p := ⟨tb, 0, none⟩) hsz _).setCell (p := ⟨tb, 1, none⟩) hsz _).setCell (p := ⟨tb, 2, none⟩) hsz _).setCell (p := ⟨tb, 3, none⟩) hsz _
              have hL : ListAt ((((W.setCell ⟨tb, 0, none⟩ (.float .f64 (r.x1))).setCell ⟨tb, 1, none⟩ (.float .f64 (r.y1))).setCell ⟨tb, 2, none⟩ (.float .f64 (r.x2))).setCell ⟨tb, 3, none⟩ (.float .f64 (r.y2))) tb (mL r) := list_set4 HLL.out
              refine wp_abs26 (fun W => Below W3.heap.size W3 W ∧ ListAt W tb (mL r)) ⟨hT, hL⟩ ?_
              clear hT hL HT HLL z0 z1 z2 z3 f0 f1 f2 f3
              rintro W9 ⟨hT, hL⟩
              clear q0 q1 q2 q3 bi
              have hG := HG3.out.below hT
              have gi := (hG.1.2 4 _ rfl).1
              obtain ⟨_, q0, q1, q2, q3⟩ := hG.2.2.2.2.2
              have z0 := (hL.2 0 _ rfl).1
              have z1 := (hL.2 1 _ rfl).1
              have z2 := (hL.2 2 _ rfl).1
              have z3 := (hL.2 3 _ rfl).1
              have hneq := neq_self PR.out
              have HT := Lib.hid hT
              clear hT hG hL
              go_quiet (fail)
              go_wp2_with fail
              go_roundw
              case rel => exact ⟨4 + 1, by omega, by go_num, Lib.hid (bel_drewN _ HT.out)⟩
              case measure => simp [intOf] <;> omega
          · go_wp2_with fail
            go_ret
            exact ⟨rfl, HC3.out.1.1.trans (hS.out.mono HC3.out.1.1.size)⟩
end Go.Proofs.Ytooghncdhjdcpaa
