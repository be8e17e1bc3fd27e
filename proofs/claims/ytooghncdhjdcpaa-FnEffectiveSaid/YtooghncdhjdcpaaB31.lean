/-
FnEffective: impl.Effective walked. No condition.
-/
import Derived.Test.YtooghncdhjdcpaaB30
import Derived.BigQuiet
import Derived.Deep.QuietTactic
import Derived.Deep.DeepCutAuto
import Derived.Deep.MidRow
namespace Go.Proofs.Ytooghncdhjdcpaa
open Go.RowKit Fl

abbrev nilS : Value := .slice none 0 0
/-- The five lists, and the five empty ones of the answer. -/
def EffR (w : World) (s0 s1 s2 s3 s4 : Value) (W : World) : Prop :=
  Below w.heap.size w W ∧ ListAt W w.heap.size [s0, s1, s2, s3, s4] ∧ ListAt W (w.heap.size + 1) [nilS, nilS, nilS, nilS, nilS]
theorem EffR.keep {w W W' : World} {s0 s1 s2 s3 s4 : Value} (h : EffR w s0 s1 s2 s3 s4 W) (hb : Below W.heap.size W W') : EffR w s0 s1 s2 s3 s4 W' :=
  ⟨h.1.trans (hb.mono h.1.size), h.2.1.below hb, h.2.2.below hb⟩
theorem EffR.set {w W : World} {s0 s1 s2 s3 s4 v : Value} {x k : Nat} (h : EffR w s0 s1 s2 s3 s4 W) (hx : w.heap.size + 1 < x) : EffR w s0 s1 s2 s3 s4 (W.setCell ⟨x, k, none⟩ v) :=
  ⟨h.1.setCell (by show w.heap.size ≤ x; omega) _, h.2.1.far (by omega), h.2.2.far (by omega)⟩
abbrev pbL (q0 q1 q2 q3 q4 : Option Addr) : List Value := [.pointer q0, .pointer q1, .pointer q2, .pointer q3, .pointer q4, .int .i64 0, .string ⟨#[]⟩]
abbrev pbQ (q0 q1 q2 q3 q4 : Option Addr) : Value := pbV (.pointer q0) (.pointer q1) (.pointer q2) (.pointer q3) (.pointer q4)
/-- What stands behind the first region: the boxes of the page. -/
def EffP (w : World) (ob : Nat) (o0 o1 o2 o3 o4 : Option Q4) (s3 : Value) (W : World) : Prop :=
  ∃ pb q0 q1 q2 q3 q4, s3 = ptrV pb ∧ ob < pb ∧ Below w.heap.size w W ∧ ListAt W pb (pbL q0 q1 q2 q3 q4) ∧ ListAt W ob [nilS, nilS, nilS, nilS, nilS] ∧
    BoxP W (ob < ·) (.pointer q0) o0 ∧ BoxP W (ob < ·) (.pointer q1) o1 ∧ BoxP W (ob < ·) (.pointer q2) o2 ∧ BoxP W (ob < ·) (.pointer q3) o3 ∧ BoxP W (ob < ·) (.pointer q4) o4
/-- A list of one new box. -/
def NewS (W : World) (N : Nat → Prop) (v : Value) (r : Q4) : Prop := ∃ b, v = .slice (some ⟨b, 0, none⟩) 1 1 ∧ N b ∧ RectAt W b r.x1 r.y1 r.x2 r.y2
theorem NewS.below {W W' : World} {N : Nat → Prop} {v : Value} {r : Q4} (h : NewS W N v r) (hb : Below W.heap.size W W') : NewS W' N v r := by
  obtain ⟨b, e, n, hr⟩ := h
  exact ⟨b, e, n, hr.below hb⟩
theorem NewS.far {W : World} {N : Nat → Prop} {x k : Nat} {u v : Value} {r : Q4} (h : NewS W N v r) (hn : ∀ k, N k → k ≠ x) : NewS (W.setCell ⟨x, k, none⟩ u) N v r := by
  obtain ⟨b, e, n, hr⟩ := h
  exact ⟨b, e, n, hr.far (hn b n)⟩
/-- The five rectangles that hold: pointers. -/
def EffQ (w : World) (ob : Nat) (r0 r1 r2 r3 r4 : Q4) (a : Value) (W : World) : Prop :=
  ∃ g0 g1 g2 g3 g4, a = .agg #[ptrV g0, ptrV g1, ptrV g2, ptrV g3, ptrV g4] ∧ Below w.heap.size w W ∧ ListAt W ob [nilS, nilS, nilS, nilS, nilS] ∧
    (RectAt W g0 r0.x1 r0.y1 r0.x2 r0.y2 ∧ RectAt W g1 r1.x1 r1.y1 r1.x2 r1.y2 ∧ RectAt W g2 r2.x1 r2.y1 r2.x2 r2.y2 ∧ RectAt W g3 r3.x1 r3.y1 r3.x2 r3.y2 ∧ RectAt W g4 r4.x1 r4.y1 r4.x2 r4.y2) ∧
    (ob < g0 ∧ ob < g1 ∧ ob < g2 ∧ ob < g3 ∧ ob < g4)
def EffS (wc : World) (pb : Nat) (q0 q1 q2 q3 q4 : Option Addr) (W : World) : Prop := Below wc.heap.size wc W ∧ ListAt W pb (pbL q0 q1 q2 q3 q4)
theorem EffS.keep {wc W W' : World} {pb : Nat} {q0 q1 q2 q3 q4 : Option Addr} (h : EffS wc pb q0 q1 q2 q3 q4 W) (hb : Below W.heap.size W W') : EffS wc pb q0 q1 q2 q3 q4 W' :=
  ⟨h.1.trans (hb.mono h.1.size), h.2.below hb⟩
/-- The answer so far: its first k lists are new. -/
def OutR (w W : World) (ob k : Nat) (R : Nat → Q4) (G : Nat → Nat) : Prop :=
  Below w.heap.size w W ∧ (∀ i, i < 5 → ob < G i ∧ RectAt W (G i) (R i).x1 (R i).y1 (R i).x2 (R i).y2) ∧ ∃ l : List Value, l.length = 5 ∧ ListAt W ob l ∧ ∀ i, i < k → ∃ v, l[i]? = some v ∧ NewS W (ob < ·) v (R i)
theorem OutR.drew {w W : World} {ob k : Nat} {R : Nat → Q4} {G : Nat → Nat} (h : OutR w W ob k R G) : OutR w W.drew ob k R G := by
  obtain ⟨h1, h2, l, hl, hL, hN⟩ := h
  have hbel : Below W.heap.size W W.drew := (Below.refl _ _).drew
  exact ⟨h1.drew, fun i hi => ⟨(h2 i hi).1, (h2 i hi).2.below hbel⟩, l, hl, hL.below hbel, fun i hi => by obtain ⟨v, e1, e2⟩ := hN i hi; exact ⟨v, e1, e2.below hbel⟩⟩
theorem bp_abs {P : Program} {f : Func} {Q : Ending → World → Prop} {x : Exit} {a : Act} {W : World} (S : World → Prop) (hs : S W) (h : ∀ w', S w' → bodyPost P f Q x a w') : bodyPost P f Q x a W := h W hs
theorem out_step {w W : World} {ob k : Nat} {R : Nat → Q4} {G : Nat → Nat} (h : OutR w W ob k R G) (hw : w.heap.size ≤ ob) (hk : k < 5) {n : Nat} (hn : n = W.heap.size + 1) {a b c d : Nat} (ha : (R k).x1 = a) (hb : (R k).y1 = b) (hc : (R k).x2 = c) (hd : (R k).y2 = d) :
    OutR w ((((W.alloc (.cells #[.float .f64 a, .float .f64 b, .float .f64 c, .float .f64 d] 36)).alloc (.cells #[.float .f64 a, .float .f64 b, .float .f64 c, .float .f64 d] 36)).setCell ⟨ob, k, none⟩ (.slice (some ⟨n, 0, none⟩) 1 1)).drew) ob (k + 1) R G := by
  obtain ⟨h1, h2, l, hl, hL, hN⟩ := h
  have hob := hL.1
  have hbel : Below W.heap.size W ((W.alloc (.cells #[.float .f64 a, .float .f64 b, .float .f64 c, .float .f64 d] 36)).alloc (.cells #[.float .f64 a, .float .f64 b, .float .f64 c, .float .f64 d] 36)) := below2 _ _ _
  refine OutR.drew ?_
  refine ⟨(h1.trans (hbel.mono h1.size)).setCell hw _, fun i hi => ⟨(h2 i hi).1, ((h2 i hi).2.below hbel).far (by have := (h2 i hi).1; omega)⟩, l.set k _, by simpa using hl, (hL.below hbel).set k _, fun i hi => ?_⟩
  by_cases e : i = k
  · subst e
    refine ⟨_, by rw [List.getElem?_set, if_pos rfl, if_pos (by omega)], n, rfl, by omega, ?_⟩
    rw [ha, hb, hc, hd]
    exact RectAt.far (rectAt_new _ _ _ _ _ _ _ (by simp [hn])) (by omega)
  · obtain ⟨v, e1, e2⟩ := hN i (by omega)
    exact ⟨v, by rw [List.getElem?_set, if_neg (fun c => e c.symm)]; exact e1, (e2.below hbel).far (fun k h => by omega)⟩
set_option linter.unusedSimpArgs false in
set_option maxRecDepth 100000 in
set_option maxHeartbeats 16000000 in
theorem effective {w : World} {s0 s1 s2 s3 s4 : Value} {m : Q4} {o1 o2 o3 o4 : Option Q4} (h0 : BoxS w s0 (some m)) (h1 : BoxS w s1 o1) (h2 : BoxS w s2 o2) (h3 : BoxS w s3 o3) (h4 : BoxS w s4 o4) :
    Calls Try.prog 48 #[.agg #[s0, s1, s2, s3, s4]] w fun e w' => ∃ u0 u1 u2 u3 u4, e = .returned (.agg #[u0, u1, u2, u3, u4]) ∧ Below w.heap.size w w' ∧
      NewS w' (w.heap.size ≤ ·) u0 m ∧ NewS w' (w.heap.size ≤ ·) u1 (o1.getD m) ∧ NewS w' (w.heap.size ≤ ·) u2 (o2.getD (o1.getD m)) ∧ NewS w' (w.heap.size ≤ ·) u3 (o3.getD (o1.getD m)) ∧ NewS w' (w.heap.size ≤ ·) u4 (o4.getD (o1.getD m)) := by
  have H0 := Lib.hid h0
  have H1 := Lib.hid h1
  have H2 := Lib.hid h2
  have H3 := Lib.hid h3
  have H4 := Lib.hid h4
  clear h0 h1 h2 h3 h4
  go_enter Try.func48, Try.ntmps48
  go_wp2_with fail
  have hF0 : EffR w s0 s1 s2 s3 s4 ((w.alloc (.cells #[s0, s1, s2, s3, s4] 71)).alloc (.cells #[nilS, nilS, nilS, nilS, nilS] 71)) :=
    ⟨below2 _ _ _, (listAt_new w _ rfl [s0, s1, s2, s3, s4] 71).below (below1 _ _), listAt_new _ _ (by simp) [nilS, nilS, nilS, nilS, nilS] 71⟩
  refine wp_abs26 (fun W => EffR w s0 s1 s2 s3 s4 W) hF0 ?_
  clear hF0
  rintro W hF
  go_cut [3] (fun s3' wx => EffP w (w.heap.size + 1) (some m) o1 o2 o3 o4 s3' wx)
  case first =>
    refine wp_region_noPanic ?_
    refine wp_region_held_drew (S := EffR w s0 s1 s2 s3 s4) (by kernel_rfl) ?_ (fun hHeld => ?_)
    · exact hF.keep (Below.refl _ _).drew
    generalize W.drew = W0 at *
    refine wpAnyH_take (i := 0) (v := .pointer (some ⟨w.heap.size, 0, none⟩)) rfl (by kernel_rfl) (by kernel_rfl) (by kernel_rfl) (fun _ _ _ h => h) (Or.inl ⟨by rfl, ?y1⟩) (by assumption) ?r1
    case y1 =>
      intro w1 hSw
      go_simp
      try with_reducible rfl
    try simp only [List.getElem_toArray, List.getElem_cons_zero, List.getElem_cons_succ, Act.put, List.setIfInBounds_toArray, List.set_cons_zero, List.set_cons_succ]
    refine wpAnyH_take (i := 1) (v := s0) rfl (by kernel_rfl) (by kernel_rfl) (by kernel_rfl) (fun _ _ _ h => h) (Or.inl ⟨by rfl, ?y2⟩) (by assumption) ?r2
    case y2 =>
      intro w1 hSw
      have c0 := (hSw.2.1.2 0 _ rfl).1
      go_simp
      try with_reducible rfl
    try simp only [List.getElem_toArray, List.getElem_cons_zero, List.getElem_cons_succ, Act.put, List.setIfInBounds_toArray, List.set_cons_zero, List.set_cons_succ]
    refine wpAnyH_take (i := 3) (v := .pointer (some ⟨w.heap.size, 1, none⟩)) rfl (by kernel_rfl) (by kernel_rfl) (by kernel_rfl) (fun _ _ _ h => h) (Or.inl ⟨by rfl, ?y3⟩) (by assumption) ?r3
    case y3 =>
      intro w1 hSw
      go_simp
      try with_reducible rfl
    try simp only [List.getElem_toArray, List.getElem_cons_zero, List.getElem_cons_succ, Act.put, List.setIfInBounds_toArray, List.set_cons_zero, List.set_cons_succ]
    refine wpAnyH_take (i := 4) (v := s1) rfl (by kernel_rfl) (by kernel_rfl) (by kernel_rfl) (fun _ _ _ h => h) (Or.inl ⟨by rfl, ?y4⟩) (by assumption) ?r4
    case y4 =>
      intro w1 hSw
      have c0 := (hSw.2.1.2 1 _ rfl).1
      go_simp
      try with_reducible rfl
    try simp only [List.getElem_toArray, List.getElem_cons_zero, List.getElem_cons_succ, Act.put, List.setIfInBounds_toArray, List.set_cons_zero, List.set_cons_succ]
    refine wpAnyH_take (i := 6) (v := .pointer (some ⟨w.heap.size, 2, none⟩)) rfl (by kernel_rfl) (by kernel_rfl) (by kernel_rfl) (fun _ _ _ h => h) (Or.inl ⟨by rfl, ?y5⟩) (by assumption) ?r5
    case y5 =>
      intro w1 hSw
      go_simp
      try with_reducible rfl
    try simp only [List.getElem_toArray, List.getElem_cons_zero, List.getElem_cons_succ, Act.put, List.setIfInBounds_toArray, List.set_cons_zero, List.set_cons_succ]
    refine wpAnyH_take (i := 7) (v := s2) rfl (by kernel_rfl) (by kernel_rfl) (by kernel_rfl) (fun _ _ _ h => h) (Or.inl ⟨by rfl, ?y6⟩) (by assumption) ?r6
    case y6 =>
      intro w1 hSw
      have c0 := (hSw.2.1.2 2 _ rfl).1
      go_simp
      try with_reducible rfl
    try simp only [List.getElem_toArray, List.getElem_cons_zero, List.getElem_cons_succ, Act.put, List.setIfInBounds_toArray, List.set_cons_zero, List.set_cons_succ]
    refine wpAnyH_take (i := 9) (v := .pointer (some ⟨w.heap.size, 3, none⟩)) rfl (by kernel_rfl) (by kernel_rfl) (by kernel_rfl) (fun _ _ _ h => h) (Or.inl ⟨by rfl, ?y7⟩) (by assumption) ?r7
    case y7 =>
      intro w1 hSw
      go_simp
      try with_reducible rfl
    try simp only [List.getElem_toArray, List.getElem_cons_zero, List.getElem_cons_succ, Act.put, List.setIfInBounds_toArray, List.set_cons_zero, List.set_cons_succ]
    refine wpAnyH_take (i := 10) (v := s3) rfl (by kernel_rfl) (by kernel_rfl) (by kernel_rfl) (fun _ _ _ h => h) (Or.inl ⟨by rfl, ?y8⟩) (by assumption) ?r8
    case y8 =>
      intro w1 hSw
      have c0 := (hSw.2.1.2 3 _ rfl).1
      go_simp
      try with_reducible rfl
    try simp only [List.getElem_toArray, List.getElem_cons_zero, List.getElem_cons_succ, Act.put, List.setIfInBounds_toArray, List.set_cons_zero, List.set_cons_succ]
    refine wpAnyH_take (i := 12) (v := .pointer (some ⟨w.heap.size, 4, none⟩)) rfl (by kernel_rfl) (by kernel_rfl) (by kernel_rfl) (fun _ _ _ h => h) (Or.inl ⟨by rfl, ?y9⟩) (by assumption) ?r9
    case y9 =>
      intro w1 hSw
      go_simp
      try with_reducible rfl
    try simp only [List.getElem_toArray, List.getElem_cons_zero, List.getElem_cons_succ, Act.put, List.setIfInBounds_toArray, List.set_cons_zero, List.set_cons_succ]
    refine wpAnyH_take (i := 13) (v := s4) rfl (by kernel_rfl) (by kernel_rfl) (by kernel_rfl) (fun _ _ _ h => h) (Or.inl ⟨by rfl, ?y10⟩) (by assumption) ?r10
    case y10 =>
      intro w1 hSw
      have c0 := (hSw.2.1.2 4 _ rfl).1
      go_simp
      try with_reducible rfl
    try simp only [List.getElem_toArray, List.getElem_cons_zero, List.getElem_cons_succ, Act.put, List.setIfInBounds_toArray, List.set_cons_zero, List.set_cons_succ]
    refine wpAnyH_ready (rs := [2, 16]) (by kernel_rfl) (by simp) (AllReadyH.cons rfl (fun K hK => ?_) (AllReadyH.cons rfl (fun K hK => ?_) AllReadyH.nil))
    · have hHelds : w.heap.size + 1 < W0.heap.size := hHeld.2.2.1
      go_simp
      refine (boxof (H0.out.below hHeld.1)).mono ?_
      rintro e W1 ⟨q0, rfl, p0, hb⟩
      refine hK.out _ _ (hHeld.keep hb) (fun hHeld => ?_)
      clear hK K
      replace p0 := p0.mono (N' := fun k => w.heap.size + 1 < k) (fun k hk h => by omega)
      clear hb
      try simp only [List.getElem_toArray, List.getElem_cons_zero, List.getElem_cons_succ, Act.put, List.setIfInBounds_toArray, List.set_cons_zero, List.set_cons_succ]
      refine wpAnyH_ready (rs := [5, 16]) (by kernel_rfl) (by simp) (AllReadyH.cons rfl (fun K hK => ?_) (AllReadyH.cons rfl (fun K hK => ?_) AllReadyH.nil))
      · have hHelds : w.heap.size + 1 < W1.heap.size := hHeld.2.2.1
        go_simp
        refine (boxof (H1.out.below hHeld.1)).mono ?_
        rintro e W2 ⟨q1, rfl, p1, hb⟩
        refine hK.out _ _ (hHeld.keep hb) (fun hHeld => ?_)
        clear hK K
        replace p0 := p0.below hb
        replace p1 := p1.mono (N' := fun k => w.heap.size + 1 < k) (fun k hk h => by omega)
        clear hb
        try simp only [List.getElem_toArray, List.getElem_cons_zero, List.getElem_cons_succ, Act.put, List.setIfInBounds_toArray, List.set_cons_zero, List.set_cons_succ]
        refine wpAnyH_ready (rs := [8, 16]) (by kernel_rfl) (by simp) (AllReadyH.cons rfl (fun K hK => ?_) (AllReadyH.cons rfl (fun K hK => ?_) AllReadyH.nil))
        · have hHelds : w.heap.size + 1 < W2.heap.size := hHeld.2.2.1
          go_simp
          refine (boxof (H2.out.below hHeld.1)).mono ?_
          rintro e W3 ⟨q2, rfl, p2, hb⟩
          refine hK.out _ _ (hHeld.keep hb) (fun hHeld => ?_)
          clear hK K
          replace p0 := p0.below hb
          replace p1 := p1.below hb
          replace p2 := p2.mono (N' := fun k => w.heap.size + 1 < k) (fun k hk h => by omega)
          clear hb
          try simp only [List.getElem_toArray, List.getElem_cons_zero, List.getElem_cons_succ, Act.put, List.setIfInBounds_toArray, List.set_cons_zero, List.set_cons_succ]
          refine wpAnyH_ready (rs := [11, 16]) (by kernel_rfl) (by simp) (AllReadyH.cons rfl (fun K hK => ?_) (AllReadyH.cons rfl (fun K hK => ?_) AllReadyH.nil))
          · have hHelds : w.heap.size + 1 < W3.heap.size := hHeld.2.2.1
            go_simp
            refine (boxof (H3.out.below hHeld.1)).mono ?_
            rintro e W4 ⟨q3, rfl, p3, hb⟩
            refine hK.out _ _ (hHeld.keep hb) (fun hHeld => ?_)
            clear hK K
            replace p0 := p0.below hb
            replace p1 := p1.below hb
            replace p2 := p2.below hb
            replace p3 := p3.mono (N' := fun k => w.heap.size + 1 < k) (fun k hk h => by omega)
            clear hb
            try simp only [List.getElem_toArray, List.getElem_cons_zero, List.getElem_cons_succ, Act.put, List.setIfInBounds_toArray, List.set_cons_zero, List.set_cons_succ]
            refine wpAnyH_ready (rs := [14, 16]) (by kernel_rfl) (by simp) (AllReadyH.cons rfl (fun K hK => ?_) (AllReadyH.cons rfl (fun K hK => ?_) AllReadyH.nil))
            · have hHelds : w.heap.size + 1 < W4.heap.size := hHeld.2.2.1
              go_simp
              refine (boxof (H4.out.below hHeld.1)).mono ?_
              rintro e W5 ⟨q4, rfl, p4, hb⟩
              refine hK.out _ _ (hHeld.keep hb) (fun hHeld => ?_)
              clear hK K
              replace p0 := p0.below hb
              replace p1 := p1.below hb
              replace p2 := p2.below hb
              replace p3 := p3.below hb
              replace p4 := p4.mono (N' := fun k => w.heap.size + 1 < k) (fun k hk h => by omega)
              clear hb
              try simp only [List.getElem_toArray, List.getElem_cons_zero, List.getElem_cons_succ, Act.put, List.setIfInBounds_toArray, List.set_cons_zero, List.set_cons_succ]
              refine wpAnyH_take (i := 15) (v := pbQ q0 q1 q2 q3 q4) rfl (by kernel_rfl) (by kernel_rfl) (by kernel_rfl) (fun _ _ _ h => h) (Or.inl ⟨by rfl, ?y11⟩) (by assumption) ?r11
              case y11 =>
                intro w1 hSw
                go_simp
                try with_reducible rfl
              try simp only [List.getElem_toArray, List.getElem_cons_zero, List.getElem_cons_succ, Act.put, List.setIfInBounds_toArray, List.set_cons_zero, List.set_cons_succ]
              refine wpAnyH_ready (rs := [16]) (by kernel_rfl) (by simp) (AllReadyH.cons rfl (fun K hK => ?_) AllReadyH.nil)
              have hHelds : w.heap.size + 1 < W5.heap.size := hHeld.2.2.1
              go_simp
              refine hK.out _ _ (hHeld.keep (below1 _ _)) (fun hHeld => ?_)
              clear hK K
              replace p0 := (p0.mono (N' := fun k => w.heap.size + 1 < k ∧ k ≠ W5.heap.size) (fun k hk h => ⟨h, by omega⟩)).below (below1 _ (.cells (pbL none none none none none).toArray 132))
              replace p1 := (p1.mono (N' := fun k => w.heap.size + 1 < k ∧ k ≠ W5.heap.size) (fun k hk h => ⟨h, by omega⟩)).below (below1 _ (.cells (pbL none none none none none).toArray 132))
              replace p2 := (p2.mono (N' := fun k => w.heap.size + 1 < k ∧ k ≠ W5.heap.size) (fun k hk h => ⟨h, by omega⟩)).below (below1 _ (.cells (pbL none none none none none).toArray 132))
              replace p3 := (p3.mono (N' := fun k => w.heap.size + 1 < k ∧ k ≠ W5.heap.size) (fun k hk h => ⟨h, by omega⟩)).below (below1 _ (.cells (pbL none none none none none).toArray 132))
              replace p4 := (p4.mono (N' := fun k => w.heap.size + 1 < k ∧ k ≠ W5.heap.size) (fun k hk h => ⟨h, by omega⟩)).below (below1 _ (.cells (pbL none none none none none).toArray 132))
              have hP := listAt_new W5 _ rfl (pbL none none none none none) 132
              have hpb : w.heap.size + 1 < W5.heap.size := hHelds
              generalize hpbe : W5.heap.size = pb at *
              have hpb2 : w.heap.size + 1 < pb := by omega
              generalize W5.alloc _ = W6 at *
              try simp only [List.getElem_toArray, List.getElem_cons_zero, List.getElem_cons_succ, Act.put, List.setIfInBounds_toArray, List.set_cons_zero, List.set_cons_succ]
              refine wpAnyH_ready (rs := [17]) (by kernel_rfl) (by simp) (AllReadyH.cons rfl (fun K hK => ?_) AllReadyH.nil)
              have fz0 := (hP.2 0 _ rfl).2
              have cz0 := (hP.2 0 _ rfl).1
              have fz1 := (hP.2 1 _ rfl).2
              have cz1 := (hP.2 1 _ rfl).1
              have fz2 := (hP.2 2 _ rfl).2
              have cz2 := (hP.2 2 _ rfl).1
              have fz3 := (hP.2 3 _ rfl).2
              have cz3 := (hP.2 3 _ rfl).1
              have fz4 := (hP.2 4 _ rfl).2
              have cz4 := (hP.2 4 _ rfl).1
              have fz5 := (hP.2 5 _ rfl).2
              have cz5 := (hP.2 5 _ rfl).1
              have fz6 := (hP.2 6 _ rfl).2
              have cz6 := (hP.2 6 _ rfl).1
              go_simp
              refine hK.out _ _ (((((((hHeld.set hpb).set hpb).set hpb).set hpb).set hpb).set hpb).set hpb) (fun hHeld => ?_)
              clear hK K fz0 fz1 fz2 fz3 fz4 fz5 fz6 cz0 cz1 cz2 cz3 cz4 cz5 cz6
              replace hP := ((((((hP.set 0 (.pointer q0)).set 1 (.pointer q1)).set 2 (.pointer q2)).set 3 (.pointer q3)).set 4 (.pointer q4)).set 5 (.int .i64 0)).set 6 (.string ⟨#[]⟩)
              have hfar : ∀ k, (w.heap.size + 1 < k ∧ k ≠ pb) → k ≠ pb := fun _ h => h.2
              replace p0 := ((((((p0.far (k := 0) (u := .pointer q0) hfar).far (k := 1) (u := .pointer q1) hfar).far (k := 2) (u := .pointer q2) hfar).far (k := 3) (u := .pointer q3) hfar).far (k := 4) (u := .pointer q4) hfar).far (k := 5) (u := .int .i64 0) hfar).far (k := 6) (u := .string ⟨#[]⟩) hfar
              replace p1 := ((((((p1.far (k := 0) (u := .pointer q0) hfar).far (k := 1) (u := .pointer q1) hfar).far (k := 2) (u := .pointer q2) hfar).far (k := 3) (u := .pointer q3) hfar).far (k := 4) (u := .pointer q4) hfar).far (k := 5) (u := .int .i64 0) hfar).far (k := 6) (u := .string ⟨#[]⟩) hfar
              replace p2 := ((((((p2.far (k := 0) (u := .pointer q0) hfar).far (k := 1) (u := .pointer q1) hfar).far (k := 2) (u := .pointer q2) hfar).far (k := 3) (u := .pointer q3) hfar).far (k := 4) (u := .pointer q4) hfar).far (k := 5) (u := .int .i64 0) hfar).far (k := 6) (u := .string ⟨#[]⟩) hfar
              replace p3 := ((((((p3.far (k := 0) (u := .pointer q0) hfar).far (k := 1) (u := .pointer q1) hfar).far (k := 2) (u := .pointer q2) hfar).far (k := 3) (u := .pointer q3) hfar).far (k := 4) (u := .pointer q4) hfar).far (k := 5) (u := .int .i64 0) hfar).far (k := 6) (u := .string ⟨#[]⟩) hfar
              replace p4 := ((((((p4.far (k := 0) (u := .pointer q0) hfar).far (k := 1) (u := .pointer q1) hfar).far (k := 2) (u := .pointer q2) hfar).far (k := 3) (u := .pointer q3) hfar).far (k := 4) (u := .pointer q4) hfar).far (k := 5) (u := .int .i64 0) hfar).far (k := 6) (u := .string ⟨#[]⟩) hfar
              try simp only [List.getElem_toArray, List.getElem_cons_zero, List.getElem_cons_succ, Act.put, List.setIfInBounds_toArray, List.set_cons_zero, List.set_cons_succ]
              refine wpAnyH_done (by kernel_rfl) ?_ _
              refine NoPanic.normal ?_
              go_wp2_with fail
              go_meet
              exact ⟨pb, q0, q1, q2, q3, q4, rfl, hpb2, hHeld.1, hP, hHeld.2.2, p0.mono (fun _ _ h => h.1), p1.mono (fun _ _ h => h.1), p2.mono (fun _ _ h => h.1), p3.mono (fun _ _ h => h.1), p4.mono (fun _ _ h => h.1)⟩
            · have hHelds : w.heap.size + 1 < W4.heap.size := hHeld.2.2.1
              go_simp
              refine hK.out _ _ (hHeld.keep (below1 _ _)) (fun hHeld => ?_)
              clear hK K
              replace p0 := (p0.mono (N' := fun k => w.heap.size + 1 < k ∧ k ≠ W4.heap.size) (fun k hk h => ⟨h, by omega⟩)).below (below1 _ (.cells (pbL none none none none none).toArray 132))
              replace p1 := (p1.mono (N' := fun k => w.heap.size + 1 < k ∧ k ≠ W4.heap.size) (fun k hk h => ⟨h, by omega⟩)).below (below1 _ (.cells (pbL none none none none none).toArray 132))
              replace p2 := (p2.mono (N' := fun k => w.heap.size + 1 < k ∧ k ≠ W4.heap.size) (fun k hk h => ⟨h, by omega⟩)).below (below1 _ (.cells (pbL none none none none none).toArray 132))
              replace p3 := (p3.mono (N' := fun k => w.heap.size + 1 < k ∧ k ≠ W4.heap.size) (fun k hk h => ⟨h, by omega⟩)).below (below1 _ (.cells (pbL none none none none none).toArray 132))
              have hP := listAt_new W4 _ rfl (pbL none none none none none) 132
              have hpb : w.heap.size + 1 < W4.heap.size := hHelds
              generalize hpbe : W4.heap.size = pb at *
              have hpb2 : w.heap.size + 1 < pb := by omega
              generalize W4.alloc _ = W7 at *
              try simp only [List.getElem_toArray, List.getElem_cons_zero, List.getElem_cons_succ, Act.put, List.setIfInBounds_toArray, List.set_cons_zero, List.set_cons_succ]
              refine wpAnyH_ready (rs := [14]) (by kernel_rfl) (by simp) (AllReadyH.cons rfl (fun K hK => ?_) AllReadyH.nil)
              have hHelds : w.heap.size + 1 < W7.heap.size := hHeld.2.2.1
              have hPs : pb < W7.heap.size := hP.1
              go_simp
              refine (boxof (H4.out.below hHeld.1)).mono ?_
              rintro e W8 ⟨q4, rfl, p4, hb⟩
              refine hK.out _ _ (hHeld.keep hb) (fun hHeld => ?_)
              clear hK K
              replace p0 := p0.below hb
              replace p1 := p1.below hb
              replace p2 := p2.below hb
              replace p3 := p3.below hb
              replace hP := hP.below hb
              replace p4 := p4.mono (N' := fun k => w.heap.size + 1 < k ∧ k ≠ pb) (fun k hk h => ⟨by omega, by omega⟩)
              clear hb
              try simp only [List.getElem_toArray, List.getElem_cons_zero, List.getElem_cons_succ, Act.put, List.setIfInBounds_toArray, List.set_cons_zero, List.set_cons_succ]
              refine wpAnyH_take (i := 15) (v := pbQ q0 q1 q2 q3 q4) rfl (by kernel_rfl) (by kernel_rfl) (by kernel_rfl) (fun _ _ _ h => h) (Or.inl ⟨by rfl, ?y12⟩) (by assumption) ?r12
              case y12 =>
                intro w1 hSw
                go_simp
                try with_reducible rfl
              try simp only [List.getElem_toArray, List.getElem_cons_zero, List.getElem_cons_succ, Act.put, List.setIfInBounds_toArray, List.set_cons_zero, List.set_cons_succ]
              refine wpAnyH_ready (rs := [17]) (by kernel_rfl) (by simp) (AllReadyH.cons rfl (fun K hK => ?_) AllReadyH.nil)
              have fz0 := (hP.2 0 _ rfl).2
              have cz0 := (hP.2 0 _ rfl).1
              have fz1 := (hP.2 1 _ rfl).2
              have cz1 := (hP.2 1 _ rfl).1
              have fz2 := (hP.2 2 _ rfl).2
              have cz2 := (hP.2 2 _ rfl).1
              have fz3 := (hP.2 3 _ rfl).2
              have cz3 := (hP.2 3 _ rfl).1
              have fz4 := (hP.2 4 _ rfl).2
              have cz4 := (hP.2 4 _ rfl).1
              have fz5 := (hP.2 5 _ rfl).2
              have cz5 := (hP.2 5 _ rfl).1
              have fz6 := (hP.2 6 _ rfl).2
              have cz6 := (hP.2 6 _ rfl).1
              go_simp
              refine hK.out _ _ (((((((hHeld.set hpb).set hpb).set hpb).set hpb).set hpb).set hpb).set hpb) (fun hHeld => ?_)
              clear hK K fz0 fz1 fz2 fz3 fz4 fz5 fz6 cz0 cz1 cz2 cz3 cz4 cz5 cz6
              replace hP := ((((((hP.set 0 (.pointer q0)).set 1 (.pointer q1)).set 2 (.pointer q2)).set 3 (.pointer q3)).set 4 (.pointer q4)).set 5 (.int .i64 0)).set 6 (.string ⟨#[]⟩)
              have hfar : ∀ k, (w.heap.size + 1 < k ∧ k ≠ pb) → k ≠ pb := fun _ h => h.2
              replace p0 := ((((((p0.far (k := 0) (u := .pointer q0) hfar).far (k := 1) (u := .pointer q1) hfar).far (k := 2) (u := .pointer q2) hfar).far (k := 3) (u := .pointer q3) hfar).far (k := 4) (u := .pointer q4) hfar).far (k := 5) (u := .int .i64 0) hfar).far (k := 6) (u := .string ⟨#[]⟩) hfar
              replace p1 := ((((((p1.far (k := 0) (u := .pointer q0) hfar).far (k := 1) (u := .pointer q1) hfar).far (k := 2) (u := .pointer q2) hfar).far (k := 3) (u := .pointer q3) hfar).far (k := 4) (u := .pointer q4) hfar).far (k := 5) (u := .int .i64 0) hfar).far (k := 6) (u := .string ⟨#[]⟩) hfar
              replace p2 := ((((((p2.far (k := 0) (u := .pointer q0) hfar).far (k := 1) (u := .pointer q1) hfar).far (k := 2) (u := .pointer q2) hfar).far (k := 3) (u := .pointer q3) hfar).far (k := 4) (u := .pointer q4) hfar).far (k := 5) (u := .int .i64 0) hfar).far (k := 6) (u := .string ⟨#[]⟩) hfar
              replace p3 := ((((((p3.far (k := 0) (u := .pointer q0) hfar).far (k := 1) (u := .pointer q1) hfar).far (k := 2) (u := .pointer q2) hfar).far (k := 3) (u := .pointer q3) hfar).far (k := 4) (u := .pointer q4) hfar).far (k := 5) (u := .int .i64 0) hfar).far (k := 6) (u := .string ⟨#[]⟩) hfar
              replace p4 := ((((((p4.far (k := 0) (u := .pointer q0) hfar).far (k := 1) (u := .pointer q1) hfar).far (k := 2) (u := .pointer q2) hfar).far (k := 3) (u := .pointer q3) hfar).far (k := 4) (u := .pointer q4) hfar).far (k := 5) (u := .int .i64 0) hfar).far (k := 6) (u := .string ⟨#[]⟩) hfar
              try simp only [List.getElem_toArray, List.getElem_cons_zero, List.getElem_cons_succ, Act.put, List.setIfInBounds_toArray, List.set_cons_zero, List.set_cons_succ]
              refine wpAnyH_done (by kernel_rfl) ?_ _
              refine NoPanic.normal ?_
              go_wp2_with fail
              go_meet
              exact ⟨pb, q0, q1, q2, q3, q4, rfl, hpb2, hHeld.1, hP, hHeld.2.2, p0.mono (fun _ _ h => h.1), p1.mono (fun _ _ h => h.1), p2.mono (fun _ _ h => h.1), p3.mono (fun _ _ h => h.1), p4.mono (fun _ _ h => h.1)⟩
          · have hHelds : w.heap.size + 1 < W3.heap.size := hHeld.2.2.1
            go_simp
            refine hK.out _ _ (hHeld.keep (below1 _ _)) (fun hHeld => ?_)
            clear hK K
            replace p0 := (p0.mono (N' := fun k => w.heap.size + 1 < k ∧ k ≠ W3.heap.size) (fun k hk h => ⟨h, by omega⟩)).below (below1 _ (.cells (pbL none none none none none).toArray 132))
            replace p1 := (p1.mono (N' := fun k => w.heap.size + 1 < k ∧ k ≠ W3.heap.size) (fun k hk h => ⟨h, by omega⟩)).below (below1 _ (.cells (pbL none none none none none).toArray 132))
            replace p2 := (p2.mono (N' := fun k => w.heap.size + 1 < k ∧ k ≠ W3.heap.size) (fun k hk h => ⟨h, by omega⟩)).below (below1 _ (.cells (pbL none none none none none).toArray 132))
            have hP := listAt_new W3 _ rfl (pbL none none none none none) 132
            have hpb : w.heap.size + 1 < W3.heap.size := hHelds
            generalize hpbe : W3.heap.size = pb at *
            have hpb2 : w.heap.size + 1 < pb := by omega
            generalize W3.alloc _ = W9 at *
            try simp only [List.getElem_toArray, List.getElem_cons_zero, List.getElem_cons_succ, Act.put, List.setIfInBounds_toArray, List.set_cons_zero, List.set_cons_succ]
            refine wpAnyH_ready (rs := [11]) (by kernel_rfl) (by simp) (AllReadyH.cons rfl (fun K hK => ?_) AllReadyH.nil)
            have hHelds : w.heap.size + 1 < W9.heap.size := hHeld.2.2.1
            have hPs : pb < W9.heap.size := hP.1
            go_simp
            refine (boxof (H3.out.below hHeld.1)).mono ?_
            rintro e W10 ⟨q3, rfl, p3, hb⟩
            refine hK.out _ _ (hHeld.keep hb) (fun hHeld => ?_)
            clear hK K
            replace p0 := p0.below hb
            replace p1 := p1.below hb
            replace p2 := p2.below hb
            replace hP := hP.below hb
            replace p3 := p3.mono (N' := fun k => w.heap.size + 1 < k ∧ k ≠ pb) (fun k hk h => ⟨by omega, by omega⟩)
            clear hb
            try simp only [List.getElem_toArray, List.getElem_cons_zero, List.getElem_cons_succ, Act.put, List.setIfInBounds_toArray, List.set_cons_zero, List.set_cons_succ]
            refine wpAnyH_ready (rs := [14]) (by kernel_rfl) (by simp) (AllReadyH.cons rfl (fun K hK => ?_) AllReadyH.nil)
            have hHelds : w.heap.size + 1 < W10.heap.size := hHeld.2.2.1
            have hPs : pb < W10.heap.size := hP.1
            go_simp
            refine (boxof (H4.out.below hHeld.1)).mono ?_
            rintro e W11 ⟨q4, rfl, p4, hb⟩
            refine hK.out _ _ (hHeld.keep hb) (fun hHeld => ?_)
            clear hK K
            replace p0 := p0.below hb
            replace p1 := p1.below hb
            replace p2 := p2.below hb
            replace p3 := p3.below hb
            replace hP := hP.below hb
            replace p4 := p4.mono (N' := fun k => w.heap.size + 1 < k ∧ k ≠ pb) (fun k hk h => ⟨by omega, by omega⟩)
            clear hb
            try simp only [List.getElem_toArray, List.getElem_cons_zero, List.getElem_cons_succ, Act.put, List.setIfInBounds_toArray, List.set_cons_zero, List.set_cons_succ]
            refine wpAnyH_take (i := 15) (v := pbQ q0 q1 q2 q3 q4) rfl (by kernel_rfl) (by kernel_rfl) (by kernel_rfl) (fun _ _ _ h => h) (Or.inl ⟨by rfl, ?y13⟩) (by assumption) ?r13
            case y13 =>
              intro w1 hSw
              go_simp
              try with_reducible rfl
            try simp only [List.getElem_toArray, List.getElem_cons_zero, List.getElem_cons_succ, Act.put, List.setIfInBounds_toArray, List.set_cons_zero, List.set_cons_succ]
            refine wpAnyH_ready (rs := [17]) (by kernel_rfl) (by simp) (AllReadyH.cons rfl (fun K hK => ?_) AllReadyH.nil)
            have fz0 := (hP.2 0 _ rfl).2
            have cz0 := (hP.2 0 _ rfl).1
            have fz1 := (hP.2 1 _ rfl).2
            have cz1 := (hP.2 1 _ rfl).1
            have fz2 := (hP.2 2 _ rfl).2
            have cz2 := (hP.2 2 _ rfl).1
            have fz3 := (hP.2 3 _ rfl).2
            have cz3 := (hP.2 3 _ rfl).1
            have fz4 := (hP.2 4 _ rfl).2
            have cz4 := (hP.2 4 _ rfl).1
            have fz5 := (hP.2 5 _ rfl).2
            have cz5 := (hP.2 5 _ rfl).1
            have fz6 := (hP.2 6 _ rfl).2
            have cz6 := (hP.2 6 _ rfl).1
            go_simp
            refine hK.out _ _ (((((((hHeld.set hpb).set hpb).set hpb).set hpb).set hpb).set hpb).set hpb) (fun hHeld => ?_)
            clear hK K fz0 fz1 fz2 fz3 fz4 fz5 fz6 cz0 cz1 cz2 cz3 cz4 cz5 cz6
            replace hP := ((((((hP.set 0 (.pointer q0)).set 1 (.pointer q1)).set 2 (.pointer q2)).set 3 (.pointer q3)).set 4 (.pointer q4)).set 5 (.int .i64 0)).set 6 (.string ⟨#[]⟩)
            have hfar : ∀ k, (w.heap.size + 1 < k ∧ k ≠ pb) → k ≠ pb := fun _ h => h.2
            replace p0 := ((((((p0.far (k := 0) (u := .pointer q0) hfar).far (k := 1) (u := .pointer q1) hfar).far (k := 2) (u := .pointer q2) hfar).far (k := 3) (u := .pointer q3) hfar).far (k := 4) (u := .pointer q4) hfar).far (k := 5) (u := .int .i64 0) hfar).far (k := 6) (u := .string ⟨#[]⟩) hfar
            replace p1 := ((((((p1.far (k := 0) (u := .pointer q0) hfar).far (k := 1) (u := .pointer q1) hfar).far (k := 2) (u := .pointer q2) hfar).far (k := 3) (u := .pointer q3) hfar).far (k := 4) (u := .pointer q4) hfar).far (k := 5) (u := .int .i64 0) hfar).far (k := 6) (u := .string ⟨#[]⟩) hfar
            replace p2 := ((((((p2.far (k := 0) (u := .pointer q0) hfar).far (k := 1) (u := .pointer q1) hfar).far (k := 2) (u := .pointer q2) hfar).far (k := 3) (u := .pointer q3) hfar).far (k := 4) (u := .pointer q4) hfar).far (k := 5) (u := .int .i64 0) hfar).far (k := 6) (u := .string ⟨#[]⟩) hfar
            replace p3 := ((((((p3.far (k := 0) (u := .pointer q0) hfar).far (k := 1) (u := .pointer q1) hfar).far (k := 2) (u := .pointer q2) hfar).far (k := 3) (u := .pointer q3) hfar).far (k := 4) (u := .pointer q4) hfar).far (k := 5) (u := .int .i64 0) hfar).far (k := 6) (u := .string ⟨#[]⟩) hfar
            replace p4 := ((((((p4.far (k := 0) (u := .pointer q0) hfar).far (k := 1) (u := .pointer q1) hfar).far (k := 2) (u := .pointer q2) hfar).far (k := 3) (u := .pointer q3) hfar).far (k := 4) (u := .pointer q4) hfar).far (k := 5) (u := .int .i64 0) hfar).far (k := 6) (u := .string ⟨#[]⟩) hfar
            try simp only [List.getElem_toArray, List.getElem_cons_zero, List.getElem_cons_succ, Act.put, List.setIfInBounds_toArray, List.set_cons_zero, List.set_cons_succ]
            refine wpAnyH_done (by kernel_rfl) ?_ _
            refine NoPanic.normal ?_
            go_wp2_with fail
            go_meet
            exact ⟨pb, q0, q1, q2, q3, q4, rfl, hpb2, hHeld.1, hP, hHeld.2.2, p0.mono (fun _ _ h => h.1), p1.mono (fun _ _ h => h.1), p2.mono (fun _ _ h => h.1), p3.mono (fun _ _ h => h.1), p4.mono (fun _ _ h => h.1)⟩
        · have hHelds : w.heap.size + 1 < W2.heap.size := hHeld.2.2.1
          go_simp
          refine hK.out _ _ (hHeld.keep (below1 _ _)) (fun hHeld => ?_)
          clear hK K
          replace p0 := (p0.mono (N' := fun k => w.heap.size + 1 < k ∧ k ≠ W2.heap.size) (fun k hk h => ⟨h, by omega⟩)).below (below1 _ (.cells (pbL none none none none none).toArray 132))
          replace p1 := (p1.mono (N' := fun k => w.heap.size + 1 < k ∧ k ≠ W2.heap.size) (fun k hk h => ⟨h, by omega⟩)).below (below1 _ (.cells (pbL none none none none none).toArray 132))
          have hP := listAt_new W2 _ rfl (pbL none none none none none) 132
          have hpb : w.heap.size + 1 < W2.heap.size := hHelds
          generalize hpbe : W2.heap.size = pb at *
          have hpb2 : w.heap.size + 1 < pb := by omega
          generalize W2.alloc _ = W12 at *
          try simp only [List.getElem_toArray, List.getElem_cons_zero, List.getElem_cons_succ, Act.put, List.setIfInBounds_toArray, List.set_cons_zero, List.set_cons_succ]
          refine wpAnyH_ready (rs := [8]) (by kernel_rfl) (by simp) (AllReadyH.cons rfl (fun K hK => ?_) AllReadyH.nil)
          have hHelds : w.heap.size + 1 < W12.heap.size := hHeld.2.2.1
          have hPs : pb < W12.heap.size := hP.1
          go_simp
          refine (boxof (H2.out.below hHeld.1)).mono ?_
          rintro e W13 ⟨q2, rfl, p2, hb⟩
          refine hK.out _ _ (hHeld.keep hb) (fun hHeld => ?_)
          clear hK K
          replace p0 := p0.below hb
          replace p1 := p1.below hb
          replace hP := hP.below hb
          replace p2 := p2.mono (N' := fun k => w.heap.size + 1 < k ∧ k ≠ pb) (fun k hk h => ⟨by omega, by omega⟩)
          clear hb
          try simp only [List.getElem_toArray, List.getElem_cons_zero, List.getElem_cons_succ, Act.put, List.setIfInBounds_toArray, List.set_cons_zero, List.set_cons_succ]
          refine wpAnyH_ready (rs := [11]) (by kernel_rfl) (by simp) (AllReadyH.cons rfl (fun K hK => ?_) AllReadyH.nil)
          have hHelds : w.heap.size + 1 < W13.heap.size := hHeld.2.2.1
          have hPs : pb < W13.heap.size := hP.1
          go_simp
          refine (boxof (H3.out.below hHeld.1)).mono ?_
          rintro e W14 ⟨q3, rfl, p3, hb⟩
          refine hK.out _ _ (hHeld.keep hb) (fun hHeld => ?_)
          clear hK K
          replace p0 := p0.below hb
          replace p1 := p1.below hb
          replace p2 := p2.below hb
          replace hP := hP.below hb
          replace p3 := p3.mono (N' := fun k => w.heap.size + 1 < k ∧ k ≠ pb) (fun k hk h => ⟨by omega, by omega⟩)
          clear hb
          try simp only [List.getElem_toArray, List.getElem_cons_zero, List.getElem_cons_succ, Act.put, List.setIfInBounds_toArray, List.set_cons_zero, List.set_cons_succ]
          refine wpAnyH_ready (rs := [14]) (by kernel_rfl) (by simp) (AllReadyH.cons rfl (fun K hK => ?_) AllReadyH.nil)
          have hHelds : w.heap.size + 1 < W14.heap.size := hHeld.2.2.1
          have hPs : pb < W14.heap.size := hP.1
          go_simp
          refine (boxof (H4.out.below hHeld.1)).mono ?_
          rintro e W15 ⟨q4, rfl, p4, hb⟩
          refine hK.out _ _ (hHeld.keep hb) (fun hHeld => ?_)
          clear hK K
          replace p0 := p0.below hb
          replace p1 := p1.below hb
          replace p2 := p2.below hb
          replace p3 := p3.below hb
          replace hP := hP.below hb
          replace p4 := p4.mono (N' := fun k => w.heap.size + 1 < k ∧ k ≠ pb) (fun k hk h => ⟨by omega, by omega⟩)
          clear hb
          try simp only [List.getElem_toArray, List.getElem_cons_zero, List.getElem_cons_succ, Act.put, List.setIfInBounds_toArray, List.set_cons_zero, List.set_cons_succ]
          refine wpAnyH_take (i := 15) (v := pbQ q0 q1 q2 q3 q4) rfl (by kernel_rfl) (by kernel_rfl) (by kernel_rfl) (fun _ _ _ h => h) (Or.inl ⟨by rfl, ?y14⟩) (by assumption) ?r14
          case y14 =>
            intro w1 hSw
            go_simp
            try with_reducible rfl
          try simp only [List.getElem_toArray, List.getElem_cons_zero, List.getElem_cons_succ, Act.put, List.setIfInBounds_toArray, List.set_cons_zero, List.set_cons_succ]
          refine wpAnyH_ready (rs := [17]) (by kernel_rfl) (by simp) (AllReadyH.cons rfl (fun K hK => ?_) AllReadyH.nil)
          have fz0 := (hP.2 0 _ rfl).2
          have cz0 := (hP.2 0 _ rfl).1
          have fz1 := (hP.2 1 _ rfl).2
          have cz1 := (hP.2 1 _ rfl).1
          have fz2 := (hP.2 2 _ rfl).2
          have cz2 := (hP.2 2 _ rfl).1
          have fz3 := (hP.2 3 _ rfl).2
          have cz3 := (hP.2 3 _ rfl).1
          have fz4 := (hP.2 4 _ rfl).2
          have cz4 := (hP.2 4 _ rfl).1
          have fz5 := (hP.2 5 _ rfl).2
          have cz5 := (hP.2 5 _ rfl).1
          have fz6 := (hP.2 6 _ rfl).2
          have cz6 := (hP.2 6 _ rfl).1
          go_simp
          refine hK.out _ _ (((((((hHeld.set hpb).set hpb).set hpb).set hpb).set hpb).set hpb).set hpb) (fun hHeld => ?_)
          clear hK K fz0 fz1 fz2 fz3 fz4 fz5 fz6 cz0 cz1 cz2 cz3 cz4 cz5 cz6
          replace hP := ((((((hP.set 0 (.pointer q0)).set 1 (.pointer q1)).set 2 (.pointer q2)).set 3 (.pointer q3)).set 4 (.pointer q4)).set 5 (.int .i64 0)).set 6 (.string ⟨#[]⟩)
          have hfar : ∀ k, (w.heap.size + 1 < k ∧ k ≠ pb) → k ≠ pb := fun _ h => h.2
          replace p0 := ((((((p0.far (k := 0) (u := .pointer q0) hfar).far (k := 1) (u := .pointer q1) hfar).far (k := 2) (u := .pointer q2) hfar).far (k := 3) (u := .pointer q3) hfar).far (k := 4) (u := .pointer q4) hfar).far (k := 5) (u := .int .i64 0) hfar).far (k := 6) (u := .string ⟨#[]⟩) hfar
          replace p1 := ((((((p1.far (k := 0) (u := .pointer q0) hfar).far (k := 1) (u := .pointer q1) hfar).far (k := 2) (u := .pointer q2) hfar).far (k := 3) (u := .pointer q3) hfar).far (k := 4) (u := .pointer q4) hfar).far (k := 5) (u := .int .i64 0) hfar).far (k := 6) (u := .string ⟨#[]⟩) hfar
          replace p2 := ((((((p2.far (k := 0) (u := .pointer q0) hfar).far (k := 1) (u := .pointer q1) hfar).far (k := 2) (u := .pointer q2) hfar).far (k := 3) (u := .pointer q3) hfar).far (k := 4) (u := .pointer q4) hfar).far (k := 5) (u := .int .i64 0) hfar).far (k := 6) (u := .string ⟨#[]⟩) hfar
          replace p3 := ((((((p3.far (k := 0) (u := .pointer q0) hfar).far (k := 1) (u := .pointer q1) hfar).far (k := 2) (u := .pointer q2) hfar).far (k := 3) (u := .pointer q3) hfar).far (k := 4) (u := .pointer q4) hfar).far (k := 5) (u := .int .i64 0) hfar).far (k := 6) (u := .string ⟨#[]⟩) hfar
          replace p4 := ((((((p4.far (k := 0) (u := .pointer q0) hfar).far (k := 1) (u := .pointer q1) hfar).far (k := 2) (u := .pointer q2) hfar).far (k := 3) (u := .pointer q3) hfar).far (k := 4) (u := .pointer q4) hfar).far (k := 5) (u := .int .i64 0) hfar).far (k := 6) (u := .string ⟨#[]⟩) hfar
          try simp only [List.getElem_toArray, List.getElem_cons_zero, List.getElem_cons_succ, Act.put, List.setIfInBounds_toArray, List.set_cons_zero, List.set_cons_succ]
          refine wpAnyH_done (by kernel_rfl) ?_ _
          refine NoPanic.normal ?_
          go_wp2_with fail
          go_meet
          exact ⟨pb, q0, q1, q2, q3, q4, rfl, hpb2, hHeld.1, hP, hHeld.2.2, p0.mono (fun _ _ h => h.1), p1.mono (fun _ _ h => h.1), p2.mono (fun _ _ h => h.1), p3.mono (fun _ _ h => h.1), p4.mono (fun _ _ h => h.1)⟩
      · have hHelds : w.heap.size + 1 < W1.heap.size := hHeld.2.2.1
        go_simp
        refine hK.out _ _ (hHeld.keep (below1 _ _)) (fun hHeld => ?_)
        clear hK K
        replace p0 := (p0.mono (N' := fun k => w.heap.size + 1 < k ∧ k ≠ W1.heap.size) (fun k hk h => ⟨h, by omega⟩)).below (below1 _ (.cells (pbL none none none none none).toArray 132))
        have hP := listAt_new W1 _ rfl (pbL none none none none none) 132
        have hpb : w.heap.size + 1 < W1.heap.size := hHelds
        generalize hpbe : W1.heap.size = pb at *
        have hpb2 : w.heap.size + 1 < pb := by omega
        generalize W1.alloc _ = W16 at *
        try simp only [List.getElem_toArray, List.getElem_cons_zero, List.getElem_cons_succ, Act.put, List.setIfInBounds_toArray, List.set_cons_zero, List.set_cons_succ]
        refine wpAnyH_ready (rs := [5]) (by kernel_rfl) (by simp) (AllReadyH.cons rfl (fun K hK => ?_) AllReadyH.nil)
        have hHelds : w.heap.size + 1 < W16.heap.size := hHeld.2.2.1
        have hPs : pb < W16.heap.size := hP.1
        go_simp
        refine (boxof (H1.out.below hHeld.1)).mono ?_
        rintro e W17 ⟨q1, rfl, p1, hb⟩
        refine hK.out _ _ (hHeld.keep hb) (fun hHeld => ?_)
        clear hK K
        replace p0 := p0.below hb
        replace hP := hP.below hb
        replace p1 := p1.mono (N' := fun k => w.heap.size + 1 < k ∧ k ≠ pb) (fun k hk h => ⟨by omega, by omega⟩)
        clear hb
        try simp only [List.getElem_toArray, List.getElem_cons_zero, List.getElem_cons_succ, Act.put, List.setIfInBounds_toArray, List.set_cons_zero, List.set_cons_succ]
        refine wpAnyH_ready (rs := [8]) (by kernel_rfl) (by simp) (AllReadyH.cons rfl (fun K hK => ?_) AllReadyH.nil)
        have hHelds : w.heap.size + 1 < W17.heap.size := hHeld.2.2.1
        have hPs : pb < W17.heap.size := hP.1
        go_simp
        refine (boxof (H2.out.below hHeld.1)).mono ?_
        rintro e W18 ⟨q2, rfl, p2, hb⟩
        refine hK.out _ _ (hHeld.keep hb) (fun hHeld => ?_)
        clear hK K
        replace p0 := p0.below hb
        replace p1 := p1.below hb
        replace hP := hP.below hb
        replace p2 := p2.mono (N' := fun k => w.heap.size + 1 < k ∧ k ≠ pb) (fun k hk h => ⟨by omega, by omega⟩)
        clear hb
        try simp only [List.getElem_toArray, List.getElem_cons_zero, List.getElem_cons_succ, Act.put, List.setIfInBounds_toArray, List.set_cons_zero, List.set_cons_succ]
        refine wpAnyH_ready (rs := [11]) (by kernel_rfl) (by simp) (AllReadyH.cons rfl (fun K hK => ?_) AllReadyH.nil)
        have hHelds : w.heap.size + 1 < W18.heap.size := hHeld.2.2.1
        have hPs : pb < W18.heap.size := hP.1
        go_simp
        refine (boxof (H3.out.below hHeld.1)).mono ?_
        rintro e W19 ⟨q3, rfl, p3, hb⟩
        refine hK.out _ _ (hHeld.keep hb) (fun hHeld => ?_)
        clear hK K
        replace p0 := p0.below hb
        replace p1 := p1.below hb
        replace p2 := p2.below hb
        replace hP := hP.below hb
        replace p3 := p3.mono (N' := fun k => w.heap.size + 1 < k ∧ k ≠ pb) (fun k hk h => ⟨by omega, by omega⟩)
        clear hb
        try simp only [List.getElem_toArray, List.getElem_cons_zero, List.getElem_cons_succ, Act.put, List.setIfInBounds_toArray, List.set_cons_zero, List.set_cons_succ]
        refine wpAnyH_ready (rs := [14]) (by kernel_rfl) (by simp) (AllReadyH.cons rfl (fun K hK => ?_) AllReadyH.nil)
        have hHelds : w.heap.size + 1 < W19.heap.size := hHeld.2.2.1
        have hPs : pb < W19.heap.size := hP.1
        go_simp
        refine (boxof (H4.out.below hHeld.1)).mono ?_
        rintro e W20 ⟨q4, rfl, p4, hb⟩
        refine hK.out _ _ (hHeld.keep hb) (fun hHeld => ?_)
        clear hK K
        replace p0 := p0.below hb
        replace p1 := p1.below hb
        replace p2 := p2.below hb
        replace p3 := p3.below hb
        replace hP := hP.below hb
        replace p4 := p4.mono (N' := fun k => w.heap.size + 1 < k ∧ k ≠ pb) (fun k hk h => ⟨by omega, by omega⟩)
        clear hb
        try simp only [List.getElem_toArray, List.getElem_cons_zero, List.getElem_cons_succ, Act.put, List.setIfInBounds_toArray, List.set_cons_zero, List.set_cons_succ]
        refine wpAnyH_take (i := 15) (v := pbQ q0 q1 q2 q3 q4) rfl (by kernel_rfl) (by kernel_rfl) (by kernel_rfl) (fun _ _ _ h => h) (Or.inl ⟨by rfl, ?y15⟩) (by assumption) ?r15
        case y15 =>
          intro w1 hSw
          go_simp
          try with_reducible rfl
        try simp only [List.getElem_toArray, List.getElem_cons_zero, List.getElem_cons_succ, Act.put, List.setIfInBounds_toArray, List.set_cons_zero, List.set_cons_succ]
        refine wpAnyH_ready (rs := [17]) (by kernel_rfl) (by simp) (AllReadyH.cons rfl (fun K hK => ?_) AllReadyH.nil)
        have fz0 := (hP.2 0 _ rfl).2
        have cz0 := (hP.2 0 _ rfl).1
        have fz1 := (hP.2 1 _ rfl).2
        have cz1 := (hP.2 1 _ rfl).1
        have fz2 := (hP.2 2 _ rfl).2
        have cz2 := (hP.2 2 _ rfl).1
        have fz3 := (hP.2 3 _ rfl).2
        have cz3 := (hP.2 3 _ rfl).1
        have fz4 := (hP.2 4 _ rfl).2
        have cz4 := (hP.2 4 _ rfl).1
        have fz5 := (hP.2 5 _ rfl).2
        have cz5 := (hP.2 5 _ rfl).1
        have fz6 := (hP.2 6 _ rfl).2
        have cz6 := (hP.2 6 _ rfl).1
        go_simp
        refine hK.out _ _ (((((((hHeld.set hpb).set hpb).set hpb).set hpb).set hpb).set hpb).set hpb) (fun hHeld => ?_)
        clear hK K fz0 fz1 fz2 fz3 fz4 fz5 fz6 cz0 cz1 cz2 cz3 cz4 cz5 cz6
        replace hP := ((((((hP.set 0 (.pointer q0)).set 1 (.pointer q1)).set 2 (.pointer q2)).set 3 (.pointer q3)).set 4 (.pointer q4)).set 5 (.int .i64 0)).set 6 (.string ⟨#[]⟩)
        have hfar : ∀ k, (w.heap.size + 1 < k ∧ k ≠ pb) → k ≠ pb := fun _ h => h.2
        replace p0 := ((((((p0.far (k := 0) (u := .pointer q0) hfar).far (k := 1) (u := .pointer q1) hfar).far (k := 2) (u := .pointer q2) hfar).far (k := 3) (u := .pointer q3) hfar).far (k := 4) (u := .pointer q4) hfar).far (k := 5) (u := .int .i64 0) hfar).far (k := 6) (u := .string ⟨#[]⟩) hfar
        replace p1 := ((((((p1.far (k := 0) (u := .pointer q0) hfar).far (k := 1) (u := .pointer q1) hfar).far (k := 2) (u := .pointer q2) hfar).far (k := 3) (u := .pointer q3) hfar).far (k := 4) (u := .pointer q4) hfar).far (k := 5) (u := .int .i64 0) hfar).far (k := 6) (u := .string ⟨#[]⟩) hfar
        replace p2 := ((((((p2.far (k := 0) (u := .pointer q0) hfar).far (k := 1) (u := .pointer q1) hfar).far (k := 2) (u := .pointer q2) hfar).far (k := 3) (u := .pointer q3) hfar).far (k := 4) (u := .pointer q4) hfar).far (k := 5) (u := .int .i64 0) hfar).far (k := 6) (u := .string ⟨#[]⟩) hfar
        replace p3 := ((((((p3.far (k := 0) (u := .pointer q0) hfar).far (k := 1) (u := .pointer q1) hfar).far (k := 2) (u := .pointer q2) hfar).far (k := 3) (u := .pointer q3) hfar).far (k := 4) (u := .pointer q4) hfar).far (k := 5) (u := .int .i64 0) hfar).far (k := 6) (u := .string ⟨#[]⟩) hfar
        replace p4 := ((((((p4.far (k := 0) (u := .pointer q0) hfar).far (k := 1) (u := .pointer q1) hfar).far (k := 2) (u := .pointer q2) hfar).far (k := 3) (u := .pointer q3) hfar).far (k := 4) (u := .pointer q4) hfar).far (k := 5) (u := .int .i64 0) hfar).far (k := 6) (u := .string ⟨#[]⟩) hfar
        try simp only [List.getElem_toArray, List.getElem_cons_zero, List.getElem_cons_succ, Act.put, List.setIfInBounds_toArray, List.set_cons_zero, List.set_cons_succ]
        refine wpAnyH_done (by kernel_rfl) ?_ _
        refine NoPanic.normal ?_
        go_wp2_with fail
        go_meet
        exact ⟨pb, q0, q1, q2, q3, q4, rfl, hpb2, hHeld.1, hP, hHeld.2.2, p0.mono (fun _ _ h => h.1), p1.mono (fun _ _ h => h.1), p2.mono (fun _ _ h => h.1), p3.mono (fun _ _ h => h.1), p4.mono (fun _ _ h => h.1)⟩
    · have hHelds : w.heap.size + 1 < W0.heap.size := hHeld.2.2.1
      go_simp
      refine hK.out _ _ (hHeld.keep (below1 _ _)) (fun hHeld => ?_)
      clear hK K
      have hP := listAt_new W0 _ rfl (pbL none none none none none) 132
      have hpb : w.heap.size + 1 < W0.heap.size := hHelds
      generalize hpbe : W0.heap.size = pb at *
      have hpb2 : w.heap.size + 1 < pb := by omega
      generalize W0.alloc _ = W21 at *
      try simp only [List.getElem_toArray, List.getElem_cons_zero, List.getElem_cons_succ, Act.put, List.setIfInBounds_toArray, List.set_cons_zero, List.set_cons_succ]
      refine wpAnyH_ready (rs := [2]) (by kernel_rfl) (by simp) (AllReadyH.cons rfl (fun K hK => ?_) AllReadyH.nil)
      have hHelds : w.heap.size + 1 < W21.heap.size := hHeld.2.2.1
      have hPs : pb < W21.heap.size := hP.1
      go_simp
      refine (boxof (H0.out.below hHeld.1)).mono ?_
      rintro e W22 ⟨q0, rfl, p0, hb⟩
      refine hK.out _ _ (hHeld.keep hb) (fun hHeld => ?_)
      clear hK K
      replace hP := hP.below hb
      replace p0 := p0.mono (N' := fun k => w.heap.size + 1 < k ∧ k ≠ pb) (fun k hk h => ⟨by omega, by omega⟩)
      clear hb
      try simp only [List.getElem_toArray, List.getElem_cons_zero, List.getElem_cons_succ, Act.put, List.setIfInBounds_toArray, List.set_cons_zero, List.set_cons_succ]
      refine wpAnyH_ready (rs := [5]) (by kernel_rfl) (by simp) (AllReadyH.cons rfl (fun K hK => ?_) AllReadyH.nil)
      have hHelds : w.heap.size + 1 < W22.heap.size := hHeld.2.2.1
      have hPs : pb < W22.heap.size := hP.1
      go_simp
      refine (boxof (H1.out.below hHeld.1)).mono ?_
      rintro e W23 ⟨q1, rfl, p1, hb⟩
      refine hK.out _ _ (hHeld.keep hb) (fun hHeld => ?_)
      clear hK K
      replace p0 := p0.below hb
      replace hP := hP.below hb
      replace p1 := p1.mono (N' := fun k => w.heap.size + 1 < k ∧ k ≠ pb) (fun k hk h => ⟨by omega, by omega⟩)
      clear hb
      try simp only [List.getElem_toArray, List.getElem_cons_zero, List.getElem_cons_succ, Act.put, List.setIfInBounds_toArray, List.set_cons_zero, List.set_cons_succ]
      refine wpAnyH_ready (rs := [8]) (by kernel_rfl) (by simp) (AllReadyH.cons rfl (fun K hK => ?_) AllReadyH.nil)
      have hHelds : w.heap.size + 1 < W23.heap.size := hHeld.2.2.1
      have hPs : pb < W23.heap.size := hP.1
      go_simp
      refine (boxof (H2.out.below hHeld.1)).mono ?_
      rintro e W24 ⟨q2, rfl, p2, hb⟩
      refine hK.out _ _ (hHeld.keep hb) (fun hHeld => ?_)
      clear hK K
      replace p0 := p0.below hb
      replace p1 := p1.below hb
      replace hP := hP.below hb
      replace p2 := p2.mono (N' := fun k => w.heap.size + 1 < k ∧ k ≠ pb) (fun k hk h => ⟨by omega, by omega⟩)
      clear hb
      try simp only [List.getElem_toArray, List.getElem_cons_zero, List.getElem_cons_succ, Act.put, List.setIfInBounds_toArray, List.set_cons_zero, List.set_cons_succ]
      refine wpAnyH_ready (rs := [11]) (by kernel_rfl) (by simp) (AllReadyH.cons rfl (fun K hK => ?_) AllReadyH.nil)
      have hHelds : w.heap.size + 1 < W24.heap.size := hHeld.2.2.1
      have hPs : pb < W24.heap.size := hP.1
      go_simp
      refine (boxof (H3.out.below hHeld.1)).mono ?_
      rintro e W25 ⟨q3, rfl, p3, hb⟩
      refine hK.out _ _ (hHeld.keep hb) (fun hHeld => ?_)
      clear hK K
      replace p0 := p0.below hb
      replace p1 := p1.below hb
      replace p2 := p2.below hb
      replace hP := hP.below hb
      replace p3 := p3.mono (N' := fun k => w.heap.size + 1 < k ∧ k ≠ pb) (fun k hk h => ⟨by omega, by omega⟩)
      clear hb
      try simp only [List.getElem_toArray, List.getElem_cons_zero, List.getElem_cons_succ, Act.put, List.setIfInBounds_toArray, List.set_cons_zero, List.set_cons_succ]
      refine wpAnyH_ready (rs := [14]) (by kernel_rfl) (by simp) (AllReadyH.cons rfl (fun K hK => ?_) AllReadyH.nil)
      have hHelds : w.heap.size + 1 < W25.heap.size := hHeld.2.2.1
      have hPs : pb < W25.heap.size := hP.1
      go_simp
      refine (boxof (H4.out.below hHeld.1)).mono ?_
      rintro e W26 ⟨q4, rfl, p4, hb⟩
      refine hK.out _ _ (hHeld.keep hb) (fun hHeld => ?_)
      clear hK K
      replace p0 := p0.below hb
      replace p1 := p1.below hb
      replace p2 := p2.below hb
      replace p3 := p3.below hb
      replace hP := hP.below hb
      replace p4 := p4.mono (N' := fun k => w.heap.size + 1 < k ∧ k ≠ pb) (fun k hk h => ⟨by omega, by omega⟩)
      clear hb
      try simp only [List.getElem_toArray, List.getElem_cons_zero, List.getElem_cons_succ, Act.put, List.setIfInBounds_toArray, List.set_cons_zero, List.set_cons_succ]
      refine wpAnyH_take (i := 15) (v := pbQ q0 q1 q2 q3 q4) rfl (by kernel_rfl) (by kernel_rfl) (by kernel_rfl) (fun _ _ _ h => h) (Or.inl ⟨by rfl, ?y16⟩) (by assumption) ?r16
      case y16 =>
        intro w1 hSw
        go_simp
        try with_reducible rfl
      try simp only [List.getElem_toArray, List.getElem_cons_zero, List.getElem_cons_succ, Act.put, List.setIfInBounds_toArray, List.set_cons_zero, List.set_cons_succ]
      refine wpAnyH_ready (rs := [17]) (by kernel_rfl) (by simp) (AllReadyH.cons rfl (fun K hK => ?_) AllReadyH.nil)
      have fz0 := (hP.2 0 _ rfl).2
      have cz0 := (hP.2 0 _ rfl).1
      have fz1 := (hP.2 1 _ rfl).2
      have cz1 := (hP.2 1 _ rfl).1
      have fz2 := (hP.2 2 _ rfl).2
      have cz2 := (hP.2 2 _ rfl).1
      have fz3 := (hP.2 3 _ rfl).2
      have cz3 := (hP.2 3 _ rfl).1
      have fz4 := (hP.2 4 _ rfl).2
      have cz4 := (hP.2 4 _ rfl).1
      have fz5 := (hP.2 5 _ rfl).2
      have cz5 := (hP.2 5 _ rfl).1
      have fz6 := (hP.2 6 _ rfl).2
      have cz6 := (hP.2 6 _ rfl).1
      go_simp
      refine hK.out _ _ (((((((hHeld.set hpb).set hpb).set hpb).set hpb).set hpb).set hpb).set hpb) (fun hHeld => ?_)
      clear hK K fz0 fz1 fz2 fz3 fz4 fz5 fz6 cz0 cz1 cz2 cz3 cz4 cz5 cz6
      replace hP := ((((((hP.set 0 (.pointer q0)).set 1 (.pointer q1)).set 2 (.pointer q2)).set 3 (.pointer q3)).set 4 (.pointer q4)).set 5 (.int .i64 0)).set 6 (.string ⟨#[]⟩)
      have hfar : ∀ k, (w.heap.size + 1 < k ∧ k ≠ pb) → k ≠ pb := fun _ h => h.2
      replace p0 := ((((((p0.far (k := 0) (u := .pointer q0) hfar).far (k := 1) (u := .pointer q1) hfar).far (k := 2) (u := .pointer q2) hfar).far (k := 3) (u := .pointer q3) hfar).far (k := 4) (u := .pointer q4) hfar).far (k := 5) (u := .int .i64 0) hfar).far (k := 6) (u := .string ⟨#[]⟩) hfar
      replace p1 := ((((((p1.far (k := 0) (u := .pointer q0) hfar).far (k := 1) (u := .pointer q1) hfar).far (k := 2) (u := .pointer q2) hfar).far (k := 3) (u := .pointer q3) hfar).far (k := 4) (u := .pointer q4) hfar).far (k := 5) (u := .int .i64 0) hfar).far (k := 6) (u := .string ⟨#[]⟩) hfar
      replace p2 := ((((((p2.far (k := 0) (u := .pointer q0) hfar).far (k := 1) (u := .pointer q1) hfar).far (k := 2) (u := .pointer q2) hfar).far (k := 3) (u := .pointer q3) hfar).far (k := 4) (u := .pointer q4) hfar).far (k := 5) (u := .int .i64 0) hfar).far (k := 6) (u := .string ⟨#[]⟩) hfar
      replace p3 := ((((((p3.far (k := 0) (u := .pointer q0) hfar).far (k := 1) (u := .pointer q1) hfar).far (k := 2) (u := .pointer q2) hfar).far (k := 3) (u := .pointer q3) hfar).far (k := 4) (u := .pointer q4) hfar).far (k := 5) (u := .int .i64 0) hfar).far (k := 6) (u := .string ⟨#[]⟩) hfar
      replace p4 := ((((((p4.far (k := 0) (u := .pointer q0) hfar).far (k := 1) (u := .pointer q1) hfar).far (k := 2) (u := .pointer q2) hfar).far (k := 3) (u := .pointer q3) hfar).far (k := 4) (u := .pointer q4) hfar).far (k := 5) (u := .int .i64 0) hfar).far (k := 6) (u := .string ⟨#[]⟩) hfar
      try simp only [List.getElem_toArray, List.getElem_cons_zero, List.getElem_cons_succ, Act.put, List.setIfInBounds_toArray, List.set_cons_zero, List.set_cons_succ]
      refine wpAnyH_done (by kernel_rfl) ?_ _
      refine NoPanic.normal ?_
      go_wp2_with fail
      go_meet
      exact ⟨pb, q0, q1, q2, q3, q4, rfl, hpb2, hHeld.1, hP, hHeld.2.2, p0.mono (fun _ _ h => h.1), p1.mono (fun _ _ h => h.1), p2.mono (fun _ _ h => h.1), p3.mono (fun _ _ h => h.1), p4.mono (fun _ _ h => h.1)⟩
  case rest =>
    obtain ⟨pb, q0, q1, q2, q3, q4, rfl, hpb, hB, hP, hO, p0, p1, p2, p3, p4⟩ := hcut
    go_wp2_with fail
    refine wp_region_noPanic ?_
    refine wp_region_held_drew (S := EffS wc pb q0 q1 q2 q3 q4) (by kernel_rfl) ?_ (fun hHeld => ?_)
    · exact ⟨(Below.refl _ _).drew, hP.below (Below.refl _ _).drew⟩
    have hOb := hO.1
    generalize wc.drew = W0 at *
    refine wpAnyH_take (i := 0) (v := pbQ q0 q1 q2 q3 q4) rfl (by kernel_rfl) (by kernel_rfl) (by kernel_rfl) (fun _ _ _ h => h) (Or.inl ⟨by rfl, ?y17⟩) (by assumption) ?r17
    case y17 =>
      intro w1 hSw
      have c0 := (hSw.2.2 0 _ rfl).1
      have c1 := (hSw.2.2 1 _ rfl).1
      have c2 := (hSw.2.2 2 _ rfl).1
      have c3 := (hSw.2.2 3 _ rfl).1
      have c4 := (hSw.2.2 4 _ rfl).1
      have c5 := (hSw.2.2 5 _ rfl).1
      have c6 := (hSw.2.2 6 _ rfl).1
      go_simp
      try with_reducible rfl
    try simp only [List.getElem_toArray, List.getElem_cons_zero, List.getElem_cons_succ, Act.put, List.setIfInBounds_toArray, List.set_cons_zero, List.set_cons_succ]
    refine wpAnyH_take (i := 2) (v := pbQ q0 q1 q2 q3 q4) rfl (by kernel_rfl) (by kernel_rfl) (by kernel_rfl) (fun _ _ _ h => h) (Or.inl ⟨by rfl, ?y18⟩) (by assumption) ?r18
    case y18 =>
      intro w1 hSw
      have c0 := (hSw.2.2 0 _ rfl).1
      have c1 := (hSw.2.2 1 _ rfl).1
      have c2 := (hSw.2.2 2 _ rfl).1
      have c3 := (hSw.2.2 3 _ rfl).1
      have c4 := (hSw.2.2 4 _ rfl).1
      have c5 := (hSw.2.2 5 _ rfl).1
      have c6 := (hSw.2.2 6 _ rfl).1
      go_simp
      try with_reducible rfl
    try simp only [List.getElem_toArray, List.getElem_cons_zero, List.getElem_cons_succ, Act.put, List.setIfInBounds_toArray, List.set_cons_zero, List.set_cons_succ]
    refine wpAnyH_take (i := 4) (v := pbQ q0 q1 q2 q3 q4) rfl (by kernel_rfl) (by kernel_rfl) (by kernel_rfl) (fun _ _ _ h => h) (Or.inl ⟨by rfl, ?y19⟩) (by assumption) ?r19
    case y19 =>
      intro w1 hSw
      have c0 := (hSw.2.2 0 _ rfl).1
      have c1 := (hSw.2.2 1 _ rfl).1
      have c2 := (hSw.2.2 2 _ rfl).1
      have c3 := (hSw.2.2 3 _ rfl).1
      have c4 := (hSw.2.2 4 _ rfl).1
      have c5 := (hSw.2.2 5 _ rfl).1
      have c6 := (hSw.2.2 6 _ rfl).1
      go_simp
      try with_reducible rfl
    try simp only [List.getElem_toArray, List.getElem_cons_zero, List.getElem_cons_succ, Act.put, List.setIfInBounds_toArray, List.set_cons_zero, List.set_cons_succ]
    refine wpAnyH_take (i := 6) (v := pbQ q0 q1 q2 q3 q4) rfl (by kernel_rfl) (by kernel_rfl) (by kernel_rfl) (fun _ _ _ h => h) (Or.inl ⟨by rfl, ?y20⟩) (by assumption) ?r20
    case y20 =>
      intro w1 hSw
      have c0 := (hSw.2.2 0 _ rfl).1
      have c1 := (hSw.2.2 1 _ rfl).1
      have c2 := (hSw.2.2 2 _ rfl).1
      have c3 := (hSw.2.2 3 _ rfl).1
      have c4 := (hSw.2.2 4 _ rfl).1
      have c5 := (hSw.2.2 5 _ rfl).1
      have c6 := (hSw.2.2 6 _ rfl).1
      go_simp
      try with_reducible rfl
    try simp only [List.getElem_toArray, List.getElem_cons_zero, List.getElem_cons_succ, Act.put, List.setIfInBounds_toArray, List.set_cons_zero, List.set_cons_succ]
    refine wpAnyH_take (i := 8) (v := pbQ q0 q1 q2 q3 q4) rfl (by kernel_rfl) (by kernel_rfl) (by kernel_rfl) (fun _ _ _ h => h) (Or.inl ⟨by rfl, ?y21⟩) (by assumption) ?r21
    case y21 =>
      intro w1 hSw
      have c0 := (hSw.2.2 0 _ rfl).1
      have c1 := (hSw.2.2 1 _ rfl).1
      have c2 := (hSw.2.2 2 _ rfl).1
      have c3 := (hSw.2.2 3 _ rfl).1
      have c4 := (hSw.2.2 4 _ rfl).1
      have c5 := (hSw.2.2 5 _ rfl).1
      have c6 := (hSw.2.2 6 _ rfl).1
      go_simp
      try with_reducible rfl
    try simp only [List.getElem_toArray, List.getElem_cons_zero, List.getElem_cons_succ, Act.put, List.setIfInBounds_toArray, List.set_cons_zero, List.set_cons_succ]
    refine wpAnyH_take (i := 11) (v := .int .i64 0) rfl (by kernel_rfl) (by kernel_rfl) (by kernel_rfl) (fun _ _ _ h => h) (Or.inl ⟨by rfl, ?y22⟩) (by assumption) ?r22
    case y22 =>
      intro w1 hSw
      go_simp
      try with_reducible rfl
    try simp only [List.getElem_toArray, List.getElem_cons_zero, List.getElem_cons_succ, Act.put, List.setIfInBounds_toArray, List.set_cons_zero, List.set_cons_succ]
    refine wpAnyH_ready (rs := [1]) (by kernel_rfl) (by simp) (AllReadyH.cons rfl (fun K hK => ?_) AllReadyH.nil)
    go_simp
    refine (mediabox (p0.below hHeld.1)).mono ?_
    rintro e W1 ⟨_, rfl, ⟨g0, rfl, n0, r0⟩, hb⟩
    refine hK.out _ _ (hHeld.keep hb) (fun hHeld => ?_)
    clear hK K
    clear hb
    try simp only [List.getElem_toArray, List.getElem_cons_zero, List.getElem_cons_succ, Act.put, List.setIfInBounds_toArray, List.set_cons_zero, List.set_cons_succ]
    refine wpAnyH_ready (rs := [3]) (by kernel_rfl) (by simp) (AllReadyH.cons rfl (fun K hK => ?_) AllReadyH.nil)
    go_simp
    refine (cropbox (p0.below hHeld.1) (p1.below hHeld.1)).mono ?_
    rintro e W2 ⟨_, rfl, ⟨g1, rfl, n1, r1⟩, hb⟩
    refine hK.out _ _ (hHeld.keep hb) (fun hHeld => ?_)
    clear hK K
    replace r0 := r0.below hb
    clear hb
    try simp only [List.getElem_toArray, List.getElem_cons_zero, List.getElem_cons_succ, Act.put, List.setIfInBounds_toArray, List.set_cons_zero, List.set_cons_succ]
    refine wpAnyH_ready (rs := [5]) (by kernel_rfl) (by simp) (AllReadyH.cons rfl (fun K hK => ?_) AllReadyH.nil)
    go_simp
    refine (trimbox (p0.below hHeld.1) (p1.below hHeld.1) (p2.below hHeld.1)).mono ?_
    rintro e W3 ⟨_, rfl, ⟨g2, rfl, n2, r2⟩, hb⟩
    refine hK.out _ _ (hHeld.keep hb) (fun hHeld => ?_)
    clear hK K
    replace r0 := r0.below hb
    replace r1 := r1.below hb
    clear hb
    try simp only [List.getElem_toArray, List.getElem_cons_zero, List.getElem_cons_succ, Act.put, List.setIfInBounds_toArray, List.set_cons_zero, List.set_cons_succ]
    refine wpAnyH_ready (rs := [7]) (by kernel_rfl) (by simp) (AllReadyH.cons rfl (fun K hK => ?_) AllReadyH.nil)
    go_simp
    refine (bleedbox (p0.below hHeld.1) (p1.below hHeld.1) (p3.below hHeld.1)).mono ?_
    rintro e W4 ⟨_, rfl, ⟨g3, rfl, n3, r3⟩, hb⟩
    refine hK.out _ _ (hHeld.keep hb) (fun hHeld => ?_)
    clear hK K
    replace r0 := r0.below hb
    replace r1 := r1.below hb
    replace r2 := r2.below hb
    clear hb
    try simp only [List.getElem_toArray, List.getElem_cons_zero, List.getElem_cons_succ, Act.put, List.setIfInBounds_toArray, List.set_cons_zero, List.set_cons_succ]
    refine wpAnyH_ready (rs := [9]) (by kernel_rfl) (by simp) (AllReadyH.cons rfl (fun K hK => ?_) AllReadyH.nil)
    go_simp
    refine (artbox (p0.below hHeld.1) (p1.below hHeld.1) (p4.below hHeld.1)).mono ?_
    rintro e W5 ⟨_, rfl, ⟨g4, rfl, n4, r4⟩, hb⟩
    refine hK.out _ _ (hHeld.keep hb) (fun hHeld => ?_)
    clear hK K
    replace r0 := r0.below hb
    replace r1 := r1.below hb
    replace r2 := r2.below hb
    replace r3 := r3.below hb
    clear hb
    try simp only [List.getElem_toArray, List.getElem_cons_zero, List.getElem_cons_succ, Act.put, List.setIfInBounds_toArray, List.set_cons_zero, List.set_cons_succ]
    refine wpAnyH_take (i := 10) (v := .agg #[ptrV g0, ptrV g1, ptrV g2, ptrV g3, ptrV g4]) rfl (by kernel_rfl) (by kernel_rfl) (by kernel_rfl) (fun _ _ _ h => h) (Or.inl ⟨by rfl, ?y23⟩) (by assumption) ?r23
    case y23 =>
      intro w1 hSw
      go_simp
      try with_reducible rfl
    try simp only [List.getElem_toArray, List.getElem_cons_zero, List.getElem_cons_succ, Act.put, List.setIfInBounds_toArray, List.set_cons_zero, List.set_cons_succ]
    refine wpAnyH_done (by kernel_rfl) ?_ _
    refine NoPanic.normal ?_
    have hO2 := hO.below hHeld.1
    have HOUT : Hid (OutR w W5 (w.heap.size + 1) 0 (fun i => [m, o1.getD m, o2.getD (o1.getD m), o3.getD (o1.getD m), o4.getD (o1.getD m)].getD i m) (fun i => [g0, g1, g2, g3, g4].getD i 0)) := Lib.hid ⟨hB.trans (hHeld.1.mono hB.size), fun i hi => (match i, hi with | 0, _ => ⟨n0, r0⟩ | 1, _ => ⟨n1, r1⟩ | 2, _ => ⟨n2, r2⟩ | 3, _ => ⟨n3, r3⟩ | 4, _ => ⟨n4, r4⟩ | n + 5, h => absurd h (by omega)), [nilS, nilS, nilS, nilS, nilS], rfl, hO2, fun i hi => absurd hi (by omega)⟩
    clear hO2 hO hB hHeld n0 n1 n2 n3 n4 r0 r1 r2 r3 r4 p0 p1 p2 p3 p4 hP
    go_wp2_with fail
    go_loopw [33] (fun i wr => ∃ k : Nat, k ≤ 5 ∧ i = .int .i64 k ∧ Hid (OutR w wr (w.heap.size + 1) k (fun i => [m, o1.getD m, o2.getD (o1.getD m), o3.getD (o1.getD m), o4.getD (o1.getD m)].getD i m) (fun i => [g0, g1, g2, g3, g4].getD i 0))) (fun i _ => 5 - (intOf i).toNat)
    case atStart => exact ⟨0, Nat.zero_le _, rfl, HOUT⟩
    case round =>
      obtain ⟨k, hk, rfl, hS⟩ := hrel
      have hk5 : k = 0 ∨ k = 1 ∨ k = 2 ∨ k = 3 ∨ k = 4 ∨ k = 5 := by omega
      rcases hk5 with rfl | rfl | rfl | rfl | rfl | rfl
      · have rk := (hS.out.2.1 0 (by omega)).2
        obtain ⟨l, hl, hL, _⟩ := hS.out.2.2
        obtain ⟨old, ho⟩ : ∃ x, l[0]? = some x := ⟨_, List.getElem?_eq_getElem (by omega)⟩
        have cz := fun o1 o2 => ((hL.below (below2 _ o1 o2)).2 0 _ ho).1
        have fz := fun o1 o2 => ((hL.below (below2 _ o1 o2)).2 0 _ ho).2
        have hob := hL.1
        have RK := Lib.hid rk
        clear hL hl rk ho
        go_wp2_with (first | (refine wpList_index (by rfl) 134 (.tmp 32) (.tmp 33) (by rfl) _ (.int .i64 ((0 : Nat) : Int)) (ptrV g0) (by rfl) (by rfl) (idx134 _ 0 _ (by decide) (by rfl) _) ?_) | (go_at_call 66; refine (told_exact _ RK.out).mono ?_; rintro e w2 ⟨rfl, rfl⟩))
        go_roundw
        case rel => exact ⟨0+1, by omega, by go_num, Lib.hid (out_step hS.out (by omega) (by omega) rfl rfl rfl rfl rfl)⟩
        case measure => simp [intOf] <;> omega
      · have rk := (hS.out.2.1 1 (by omega)).2
        obtain ⟨l, hl, hL, _⟩ := hS.out.2.2
        obtain ⟨old, ho⟩ : ∃ x, l[1]? = some x := ⟨_, List.getElem?_eq_getElem (by omega)⟩
        have cz := fun o1 o2 => ((hL.below (below2 _ o1 o2)).2 1 _ ho).1
        have fz := fun o1 o2 => ((hL.below (below2 _ o1 o2)).2 1 _ ho).2
        have hob := hL.1
        have RK := Lib.hid rk
        clear hL hl rk ho
        go_wp2_with (first | (refine wpList_index (by rfl) 134 (.tmp 32) (.tmp 33) (by rfl) _ (.int .i64 ((1 : Nat) : Int)) (ptrV g1) (by rfl) (by rfl) (idx134 _ 1 _ (by decide) (by rfl) _) ?_) | (go_at_call 66; refine (told_exact _ RK.out).mono ?_; rintro e w2 ⟨rfl, rfl⟩))
        go_roundw
        case rel => exact ⟨1+1, by omega, by go_num, Lib.hid (out_step hS.out (by omega) (by omega) rfl rfl rfl rfl rfl)⟩
        case measure => simp [intOf] <;> omega
      · have rk := (hS.out.2.1 2 (by omega)).2
        obtain ⟨l, hl, hL, _⟩ := hS.out.2.2
        obtain ⟨old, ho⟩ : ∃ x, l[2]? = some x := ⟨_, List.getElem?_eq_getElem (by omega)⟩
        have cz := fun o1 o2 => ((hL.below (below2 _ o1 o2)).2 2 _ ho).1
        have fz := fun o1 o2 => ((hL.below (below2 _ o1 o2)).2 2 _ ho).2
        have hob := hL.1
        have RK := Lib.hid rk
        clear hL hl rk ho
        go_wp2_with (first | (refine wpList_index (by rfl) 134 (.tmp 32) (.tmp 33) (by rfl) _ (.int .i64 ((2 : Nat) : Int)) (ptrV g2) (by rfl) (by rfl) (idx134 _ 2 _ (by decide) (by rfl) _) ?_) | (go_at_call 66; refine (told_exact _ RK.out).mono ?_; rintro e w2 ⟨rfl, rfl⟩))
        go_roundw
        case rel => exact ⟨2+1, by omega, by go_num, Lib.hid (out_step hS.out (by omega) (by omega) rfl rfl rfl rfl rfl)⟩
        case measure => simp [intOf] <;> omega
      · have rk := (hS.out.2.1 3 (by omega)).2
        obtain ⟨l, hl, hL, _⟩ := hS.out.2.2
        obtain ⟨old, ho⟩ : ∃ x, l[3]? = some x := ⟨_, List.getElem?_eq_getElem (by omega)⟩
        have cz := fun o1 o2 => ((hL.below (below2 _ o1 o2)).2 3 _ ho).1
        have fz := fun o1 o2 => ((hL.below (below2 _ o1 o2)).2 3 _ ho).2
        have hob := hL.1
        have RK := Lib.hid rk
        clear hL hl rk ho
        go_wp2_with (first | (refine wpList_index (by rfl) 134 (.tmp 32) (.tmp 33) (by rfl) _ (.int .i64 ((3 : Nat) : Int)) (ptrV g3) (by rfl) (by rfl) (idx134 _ 3 _ (by decide) (by rfl) _) ?_) | (go_at_call 66; refine (told_exact _ RK.out).mono ?_; rintro e w2 ⟨rfl, rfl⟩))
        go_roundw
        case rel => exact ⟨3+1, by omega, by go_num, Lib.hid (out_step hS.out (by omega) (by omega) rfl rfl rfl rfl rfl)⟩
        case measure => simp [intOf] <;> omega
      · have rk := (hS.out.2.1 4 (by omega)).2
        obtain ⟨l, hl, hL, _⟩ := hS.out.2.2
        obtain ⟨old, ho⟩ : ∃ x, l[4]? = some x := ⟨_, List.getElem?_eq_getElem (by omega)⟩
        have cz := fun o1 o2 => ((hL.below (below2 _ o1 o2)).2 4 _ ho).1
        have fz := fun o1 o2 => ((hL.below (below2 _ o1 o2)).2 4 _ ho).2
        have hob := hL.1
        have RK := Lib.hid rk
        clear hL hl rk ho
        go_wp2_with (first | (refine wpList_index (by rfl) 134 (.tmp 32) (.tmp 33) (by rfl) _ (.int .i64 ((4 : Nat) : Int)) (ptrV g4) (by rfl) (by rfl) (idx134 _ 4 _ (by decide) (by rfl) _) ?_) | (go_at_call 66; refine (told_exact _ RK.out).mono ?_; rintro e w2 ⟨rfl, rfl⟩))
        go_roundw
        case rel => exact ⟨4+1, by omega, by go_num, Lib.hid (out_step hS.out (by omega) (by omega) rfl rfl rfl rfl rfl)⟩
        case measure => simp [intOf] <;> omega
      · obtain ⟨hB, _, l, hl, hL, hN⟩ := hS.out
        obtain ⟨u0, e0, b0, rfl, n0, r0⟩ := hN 0 (by omega)
        obtain ⟨u1, e1, b1, rfl, n1, r1⟩ := hN 1 (by omega)
        obtain ⟨u2, e2, b2, rfl, n2, r2⟩ := hN 2 (by omega)
        obtain ⟨u3, e3, b3, rfl, n3, r3⟩ := hN 3 (by omega)
        obtain ⟨u4, e4, b4, rfl, n4, r4⟩ := hN 4 (by omega)
        have c0 := (hL.2 0 _ e0).1
        have f0 := (hL.2 0 _ e0).2
        have c1 := (hL.2 1 _ e1).1
        have f1 := (hL.2 1 _ e1).2
        have c2 := (hL.2 2 _ e2).1
        have f2 := (hL.2 2 _ e2).2
        have c3 := (hL.2 3 _ e3).1
        have f3 := (hL.2 3 _ e3).2
        have c4 := (hL.2 4 _ e4).1
        have f4 := (hL.2 4 _ e4).2
        clear hN e0 e1 e2 e3 e4
        go_wp2_with fail
        have h5 := ((((hL.set 0 (.slice (some ⟨b0, 0, none⟩) 1 1)).set 1 (.slice (some ⟨b1, 0, none⟩) 1 1)).set 2 (.slice (some ⟨b2, 0, none⟩) 1 1)).set 3 (.slice (some ⟨b3, 0, none⟩) 1 1)).set 4 (.slice (some ⟨b4, 0, none⟩) 1 1)
        have k0 := (h5.2 0 _ (by simp [List.getElem?_set, hl]; rfl)).1
        have k1 := (h5.2 1 _ (by simp [List.getElem?_set, hl]; rfl)).1
        have k2 := (h5.2 2 _ (by simp [List.getElem?_set, hl]; rfl)).1
        have k3 := (h5.2 3 _ (by simp [List.getElem?_set, hl]; rfl)).1
        have k4 := (h5.2 4 _ (by simp [List.getElem?_set, hl]; rfl)).1
        have hf : ∀ k : Nat, w.heap.size + 1 < k → k ≠ w.heap.size + 1 := fun k h => by omega
        have m0 := ((((NewS.far (N := (w.heap.size + 1 < ·)) (k := 0) (u := (.slice (some ⟨b0, 0, none⟩) 1 1)) ⟨b0, rfl, n0, r0⟩ hf).far (k := 1) (u := (.slice (some ⟨b1, 0, none⟩) 1 1)) hf).far (k := 2) (u := (.slice (some ⟨b2, 0, none⟩) 1 1)) hf).far (k := 3) (u := (.slice (some ⟨b3, 0, none⟩) 1 1)) hf).far (k := 4) (u := (.slice (some ⟨b4, 0, none⟩) 1 1)) hf
        have m1 := ((((NewS.far (N := (w.heap.size + 1 < ·)) (k := 0) (u := (.slice (some ⟨b0, 0, none⟩) 1 1)) ⟨b1, rfl, n1, r1⟩ hf).far (k := 1) (u := (.slice (some ⟨b1, 0, none⟩) 1 1)) hf).far (k := 2) (u := (.slice (some ⟨b2, 0, none⟩) 1 1)) hf).far (k := 3) (u := (.slice (some ⟨b3, 0, none⟩) 1 1)) hf).far (k := 4) (u := (.slice (some ⟨b4, 0, none⟩) 1 1)) hf
        have m2 := ((((NewS.far (N := (w.heap.size + 1 < ·)) (k := 0) (u := (.slice (some ⟨b0, 0, none⟩) 1 1)) ⟨b2, rfl, n2, r2⟩ hf).far (k := 1) (u := (.slice (some ⟨b1, 0, none⟩) 1 1)) hf).far (k := 2) (u := (.slice (some ⟨b2, 0, none⟩) 1 1)) hf).far (k := 3) (u := (.slice (some ⟨b3, 0, none⟩) 1 1)) hf).far (k := 4) (u := (.slice (some ⟨b4, 0, none⟩) 1 1)) hf
        have m3 := ((((NewS.far (N := (w.heap.size + 1 < ·)) (k := 0) (u := (.slice (some ⟨b0, 0, none⟩) 1 1)) ⟨b3, rfl, n3, r3⟩ hf).far (k := 1) (u := (.slice (some ⟨b1, 0, none⟩) 1 1)) hf).far (k := 2) (u := (.slice (some ⟨b2, 0, none⟩) 1 1)) hf).far (k := 3) (u := (.slice (some ⟨b3, 0, none⟩) 1 1)) hf).far (k := 4) (u := (.slice (some ⟨b4, 0, none⟩) 1 1)) hf
        have m4 := ((((NewS.far (N := (w.heap.size + 1 < ·)) (k := 0) (u := (.slice (some ⟨b0, 0, none⟩) 1 1)) ⟨b4, rfl, n4, r4⟩ hf).far (k := 1) (u := (.slice (some ⟨b1, 0, none⟩) 1 1)) hf).far (k := 2) (u := (.slice (some ⟨b2, 0, none⟩) 1 1)) hf).far (k := 3) (u := (.slice (some ⟨b3, 0, none⟩) 1 1)) hf).far (k := 4) (u := (.slice (some ⟨b4, 0, none⟩) 1 1)) hf
        have hw : w.heap.size ≤ w.heap.size + 1 := by omega
        have hb5 := ((((hB.setCell (p := ⟨w.heap.size + 1, 0, none⟩) hw (.slice (some ⟨b0, 0, none⟩) 1 1)).setCell (p := ⟨w.heap.size + 1, 1, none⟩) hw (.slice (some ⟨b1, 0, none⟩) 1 1)).setCell (p := ⟨w.heap.size + 1, 2, none⟩) hw (.slice (some ⟨b2, 0, none⟩) 1 1)).setCell (p := ⟨w.heap.size + 1, 3, none⟩) hw (.slice (some ⟨b3, 0, none⟩) 1 1)).setCell (p := ⟨w.heap.size + 1, 4, none⟩) hw (.slice (some ⟨b4, 0, none⟩) 1 1)
        refine bp_abs (fun W => (W.cell? ⟨w.heap.size + 1, 0, none⟩ = some (.slice (some ⟨b0, 0, none⟩) 1 1) ∧ W.cell? ⟨w.heap.size + 1, 1, none⟩ = some (.slice (some ⟨b1, 0, none⟩) 1 1) ∧ W.cell? ⟨w.heap.size + 1, 2, none⟩ = some (.slice (some ⟨b2, 0, none⟩) 1 1) ∧ W.cell? ⟨w.heap.size + 1, 3, none⟩ = some (.slice (some ⟨b3, 0, none⟩) 1 1) ∧ W.cell? ⟨w.heap.size + 1, 4, none⟩ = some (.slice (some ⟨b4, 0, none⟩) 1 1)) ∧ Below w.heap.size w W ∧ NewS W (w.heap.size + 1 < ·) (.slice (some ⟨b0, 0, none⟩) 1 1) m ∧ NewS W (w.heap.size + 1 < ·) (.slice (some ⟨b1, 0, none⟩) 1 1) (o1.getD m) ∧ NewS W (w.heap.size + 1 < ·) (.slice (some ⟨b2, 0, none⟩) 1 1) (o2.getD (o1.getD m)) ∧ NewS W (w.heap.size + 1 < ·) (.slice (some ⟨b3, 0, none⟩) 1 1) (o3.getD (o1.getD m)) ∧ NewS W (w.heap.size + 1 < ·) (.slice (some ⟨b4, 0, none⟩) 1 1) (o4.getD (o1.getD m))) ⟨⟨k0, k1, k2, k3, k4⟩, hb5, m0, m1, m2, m3, m4⟩ ?_
        clear k0 k1 k2 k3 k4 hb5 m0 m1 m2 m3 m4 h5 hL c0 c1 c2 c3 c4 f0 f1 f2 f3 f4
        rintro W9 ⟨⟨k0, k1, k2, k3, k4⟩, hb5, m0, m1, m2, m3, m4⟩
        have mono : ∀ v r, NewS W9 (w.heap.size + 1 < ·) v r → NewS W9 (w.heap.size ≤ ·) v r := fun v r ⟨b, e, n, hr⟩ => ⟨b, e, by omega, hr⟩
        refine bodyPost_ret (v := .agg #[(.slice (some ⟨b0, 0, none⟩) 1 1), (.slice (some ⟨b1, 0, none⟩) 1 1), (.slice (some ⟨b2, 0, none⟩) 1 1), (.slice (some ⟨b3, 0, none⟩) 1 1), (.slice (some ⟨b4, 0, none⟩) 1 1)]) (by simp [results, Try.results48, go_sem, k0, k1, k2, k3, k4]) rfl ?_
        exact ⟨_, _, _, _, _, rfl, hb5, mono _ _ m0, mono _ _ m1, mono _ _ m2, mono _ _ m3, mono _ _ m4⟩
end Go.Proofs.Ytooghncdhjdcpaa
