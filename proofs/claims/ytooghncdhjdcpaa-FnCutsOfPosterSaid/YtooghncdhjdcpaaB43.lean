/-
FnCutsOfPoster: RectForDim, ZzCutsOfPoster, impl.CutsOfPoster walked. Conditions: the operations' words are given.
-/
import Derived.Test.YtooghncdhjdcpaaB41
import Derived.Test.YtooghncdhjdcpaaB42
namespace Go.Proofs.Ytooghncdhjdcpaa
open Go.RowKit Fl

theorem rectfordim (x y : Nat) (w : World) : Calls Try.prog 88 #[.float .f64 x, .float .f64 y] w fun e w' => e = .returned (ptrV w.heap.size) ∧ w.alloc (.cells #[.float .f64 0, .float .f64 0, .float .f64 x, .float .f64 y] 157) = w' := by
  go_enter Try.func88, Try.ntmps88
  go_wp2_with (go_at_call 98; go_in)
  go_ret
  exact ⟨rfl, rfl⟩
/-- What the cuts of a poster are: two lists of places in rows of their own. -/
def CutsQ (w : World) (J J' : Nat) (c c' : Bool) (F F' : Nat → Nat) (v v' : Value) (w' : World) : Prop :=
  Below w.heap.size w w' ∧ w'.ownsRow w.heap.size 22 1 v (J + 1 + c.toNat) (plc F (J + c.toNat)) ∧ w'.ownsRow w.heap.size 22 1 v' (J' + 1 + c'.toNat) (plc F' (J' + c'.toNat))
theorem CutsQ.base {w W w' : World} {J J' : Nat} {c c' : Bool} {F F' : Nat → Nat} {v v' : Value} (h : CutsQ W J J' c c' F F' v v' w') (hb : Below w.heap.size w W) : CutsQ w J J' c c' F F' v v' w' :=
  ⟨hb.trans (h.1.mono hb.size), World.ownsRow.mono h.2.1 hb.size, World.ownsRow.mono h.2.2 hb.size⟩
theorem zzcuts {w : World} {g d x1 y1 x2 y2 P Q Wd Hd J J' : Nat} {c c' : Bool} {X F G r T X' F' G' r' T' : Nat → Nat} (hg : RectAt w g x1 y1 x2 y2) (hd : PtAt w d P Q) (hdl : d < w.heap.size)
    (hW : floatBits .sub .f64 x2 x1 = some Wd) (hH : floatBits .sub .f64 y2 y1 = some Hd) (V : CutW P Wd J c X F G r T) (H : CutW Q Hd J' c' X' F' G' r' T') :
    Calls Try.prog 92 #[ptrV g, ptrV d] w fun e w' => ∃ v v', e = .returned (.tuple #[v', v]) ∧ CutsQ w J J' c c' F F' v v' w' := by
  have HP := Lib.hid (poster hg hd hdl hW hH V H)
  clear hg hd hdl hW hH V H
  go_enter Try.func92, Try.ntmps92
  go_wp2_with (go_at_call 112; refine HP.out.mono ?_; rintro e w' ⟨v, v', rfl, hq⟩)
  refine bodyPost_ret (v := .tuple #[v', v]) (by simp [results, Try.results92, go_sem]) rfl ⟨v, v', rfl, hq⟩
def PartS (w : World) (P Q : Nat) (W : World) : Prop := Below w.heap.size w W ∧ ListAt W w.heap.size [.float .f64 P, .float .f64 Q]
theorem PartS.keep {w W W' : World} {P Q : Nat} (h : PartS w P Q W) (hb : Below W.heap.size W W') : PartS w P Q W' := ⟨h.1.trans (hb.mono h.1.size), h.2.below hb⟩
set_option linter.unusedSimpArgs false in
set_option maxRecDepth 100000 in
set_option maxHeartbeats 16000000 in
theorem cutsof {x y P Q q1 q2 Wd Hd J J' : Nat} {c c' : Bool} {X F G r T X' F' G' r' T' : Nat → Nat} (w : World)
    (g1 : (FloatKind.f64.format.order x 0 == some Ordering.gt) = true) (g2 : (FloatKind.f64.format.order y 0 == some Ordering.gt) = true)
    (g3 : (FloatKind.f64.format.order P 0 == some Ordering.gt) = true) (g4 : (FloatKind.f64.format.order Q 0 == some Ordering.gt) = true)
    (e1 : floatBits .quo .f64 x P = some q1) (g5 : (FloatKind.f64.format.order q1 4636737291354636288 == some Ordering.lt) = true)
    (e2 : floatBits .quo .f64 y Q = some q2) (g6 : (FloatKind.f64.format.order q2 4636737291354636288 == some Ordering.lt) = true)
    (hW : floatBits .sub .f64 x 0 = some Wd) (hH : floatBits .sub .f64 y 0 = some Hd) (V : CutW P Wd J c X F G r T) (H : CutW Q Hd J' c' X' F' G' r' T') :
    Calls Try.prog 55 #[.float .f64 x, .float .f64 y, pt P Q] w fun e w' => ∃ v v', e = .returned (.tuple #[v', v, .bool true]) ∧ CutsQ w J J' c c' F F' v v' w' := by
  have o1 := run_bin (P := Try.prog) .quo e1
  have o2 := run_bin (P := Try.prog) .quo e2
  have HW := Lib.hid hW
  have HH := Lib.hid hH
  have HV := Lib.hid V
  have HHV := Lib.hid H
  clear e1 e2 hW hH V H
  go_enter Try.func55, Try.ntmps55
  go_wp2_with fail
  have hF : PartS w P Q (w.alloc (.cells #[.float .f64 P, .float .f64 Q] 28)) := ⟨below1 _ _, listAt_new w _ rfl [.float .f64 P, .float .f64 Q] 28⟩
  refine wp_abs26 (fun W => PartS w P Q W) hF ?_
  clear hF
  rintro W hF
  go_cut [6, 7] (fun s6 s7 wx => CutsQ w J J' c c' F F' s7 s6 wx)
  case first =>
    refine wp_region_noPanic ?_
    refine wp_region_held_drew (S := PartS w P Q) (by kernel_rfl) ?_ (fun hHeld => ?_)
    · exact hF.keep (Below.refl _ _).drew
    generalize W.drew = W0 at *
    refine wpAnyH_take (i := 0) (v := .float .f64 x) rfl (by kernel_rfl) (by kernel_rfl) (by kernel_rfl) (fun _ _ _ h => h) (Or.inl ⟨by rfl, ?y1⟩) (by assumption) ?r1
    case y1 =>
      intro w1 hSw
      go_simp
      try with_reducible rfl
    try simp only [List.getElem_toArray, List.getElem_cons_zero, List.getElem_cons_succ, Act.put, List.setIfInBounds_toArray, List.set_cons_zero, List.set_cons_succ]
    refine wpAnyH_take (i := 1) (v := .float .f64 y) rfl (by kernel_rfl) (by kernel_rfl) (by kernel_rfl) (fun _ _ _ h => h) (Or.inl ⟨by rfl, ?y2⟩) (by assumption) ?r2
    case y2 =>
      intro w1 hSw
      go_simp
      try with_reducible rfl
    try simp only [List.getElem_toArray, List.getElem_cons_zero, List.getElem_cons_succ, Act.put, List.setIfInBounds_toArray, List.set_cons_zero, List.set_cons_succ]
    refine wpAnyH_take (i := 3) (v := .pointer (some ⟨w.heap.size, 0, none⟩)) rfl (by kernel_rfl) (by kernel_rfl) (by kernel_rfl) (fun _ _ _ h => h) (Or.inl ⟨by rfl, ?y3⟩) (by assumption) ?r3
    case y3 =>
      intro w1 hSw
      go_simp
      try with_reducible rfl
    try simp only [List.getElem_toArray, List.getElem_cons_zero, List.getElem_cons_succ, Act.put, List.setIfInBounds_toArray, List.set_cons_zero, List.set_cons_succ]
    refine wpAnyH_take (i := 4) (v := .float .f64 P) rfl (by kernel_rfl) (by kernel_rfl) (by kernel_rfl) (fun _ _ _ h => h) (Or.inl ⟨by rfl, ?y4⟩) (by assumption) ?r4
    case y4 =>
      intro w1 hSw
      have c0 := (hSw.2.2 0 _ rfl).1
      go_simp
      try with_reducible rfl
    try simp only [List.getElem_toArray, List.getElem_cons_zero, List.getElem_cons_succ, Act.put, List.setIfInBounds_toArray, List.set_cons_zero, List.set_cons_succ]
    refine wpAnyH_take (i := 5) (v := .pointer (some ⟨w.heap.size, 1, none⟩)) rfl (by kernel_rfl) (by kernel_rfl) (by kernel_rfl) (fun _ _ _ h => h) (Or.inl ⟨by rfl, ?y5⟩) (by assumption) ?r5
    case y5 =>
      intro w1 hSw
      go_simp
      try with_reducible rfl
    try simp only [List.getElem_toArray, List.getElem_cons_zero, List.getElem_cons_succ, Act.put, List.setIfInBounds_toArray, List.set_cons_zero, List.set_cons_succ]
    refine wpAnyH_take (i := 6) (v := .float .f64 Q) rfl (by kernel_rfl) (by kernel_rfl) (by kernel_rfl) (fun _ _ _ h => h) (Or.inl ⟨by rfl, ?y6⟩) (by assumption) ?r6
    case y6 =>
      intro w1 hSw
      have c1 := (hSw.2.2 1 _ rfl).1
      go_simp
      try with_reducible rfl
    try simp only [List.getElem_toArray, List.getElem_cons_zero, List.getElem_cons_succ, Act.put, List.setIfInBounds_toArray, List.set_cons_zero, List.set_cons_succ]
    refine wpAnyH_take (i := 7) (v := pt P Q) rfl (by kernel_rfl) (by kernel_rfl) (by kernel_rfl) (fun _ _ _ h => h) (Or.inl ⟨by rfl, ?y7⟩) (by assumption) ?r7
    case y7 =>
      intro w1 hSw
      go_simp
      try with_reducible rfl
    try simp only [List.getElem_toArray, List.getElem_cons_zero, List.getElem_cons_succ, Act.put, List.setIfInBounds_toArray, List.set_cons_zero, List.set_cons_succ]
    refine wpAnyH_ready (rs := [2, 8]) (by kernel_rfl) (by simp) (AllReadyH.cons rfl (fun K hK => ?_) (AllReadyH.cons rfl (fun K hK => ?_) AllReadyH.nil))
    · skip
      go_simp
      refine (rectfordim x y _).mono ?_
      rintro e w2 ⟨rfl, rfl⟩
      refine hK.out _ _ (hHeld.keep (below1 _ _)) (fun hHeld => ?_)
      clear hK K
      have hR := rectAt_new W0 W0.heap.size 0 0 x y 157 rfl
      generalize hg : W0.heap.size = gr at *
      generalize W0.alloc (.cells #[.float .f64 0, .float .f64 0, .float .f64 x, .float .f64 y] 157) = W1 at *
      try simp only [List.getElem_toArray, List.getElem_cons_zero, List.getElem_cons_succ, Act.put, List.setIfInBounds_toArray, List.set_cons_zero, List.set_cons_succ]
      refine wpAnyH_ready (rs := [8]) (by kernel_rfl) (by simp) (AllReadyH.cons rfl (fun K hK => ?_) AllReadyH.nil)
      go_simp
      refine hK.out _ _ (hHeld.keep (below1 _ _)) (fun hHeld => ?_)
      clear hK K
      replace hR := hR.below (below1 W1 (.cells #[.float .f64 P, .float .f64 Q] 95))
      have hD := PtAt.new W1 P Q 95
      have hdl : W1.heap.size < (W1.alloc (.cells #[.float .f64 P, .float .f64 Q] 95)).heap.size := by simp
      generalize W1.heap.size = dd at *
      generalize W1.alloc (.cells #[.float .f64 P, .float .f64 Q] 95) = W2 at *
      try simp only [List.getElem_toArray, List.getElem_cons_zero, List.getElem_cons_succ, Act.put, List.setIfInBounds_toArray, List.set_cons_zero, List.set_cons_succ]
      refine wpAnyH_ready (rs := [9]) (by kernel_rfl) (by simp) (AllReadyH.cons rfl (fun K hK => ?_) AllReadyH.nil)
      go_simp
      refine (zzcuts hR hD hdl HW.out HH.out HV.out HHV.out).mono ?_
      rintro e w9 ⟨v, v', rfl, hq⟩
      refine hK.out _ _ (hHeld.keep hq.1) (fun hHeld2 => ?_)
      clear hK K
      try simp only [List.getElem_toArray, List.getElem_cons_zero, List.getElem_cons_succ, Act.put, List.setIfInBounds_toArray, List.set_cons_zero, List.set_cons_succ]
      refine wpAnyH_take (i := 10) (v := .tuple #[v', v]) rfl (by kernel_rfl) (by kernel_rfl) (by kernel_rfl) (fun _ _ _ h => h) (Or.inl ⟨by rfl, ?y8⟩) (by assumption) ?r8
      case y8 =>
        intro w1 hSw
        go_simp
        try with_reducible rfl
      try simp only [List.getElem_toArray, List.getElem_cons_zero, List.getElem_cons_succ, Act.put, List.setIfInBounds_toArray, List.set_cons_zero, List.set_cons_succ]
      refine wpAnyH_take (i := 11) (v := v') rfl (by kernel_rfl) (by kernel_rfl) (by kernel_rfl) (fun _ _ _ h => h) (Or.inl ⟨by rfl, ?y9⟩) (by assumption) ?r9
      case y9 =>
        intro w1 hSw
        go_simp
        try with_reducible rfl
      try simp only [List.getElem_toArray, List.getElem_cons_zero, List.getElem_cons_succ, Act.put, List.setIfInBounds_toArray, List.set_cons_zero, List.set_cons_succ]
      refine wpAnyH_take (i := 12) (v := v) rfl (by kernel_rfl) (by kernel_rfl) (by kernel_rfl) (fun _ _ _ h => h) (Or.inl ⟨by rfl, ?y10⟩) (by assumption) ?r10
      case y10 =>
        intro w1 hSw
        go_simp
        try with_reducible rfl
      try simp only [List.getElem_toArray, List.getElem_cons_zero, List.getElem_cons_succ, Act.put, List.setIfInBounds_toArray, List.set_cons_zero, List.set_cons_succ]
      refine wpAnyH_take (i := 13) (v := v') rfl (by kernel_rfl) (by kernel_rfl) (by kernel_rfl) (fun _ _ _ h => h) (Or.inl ⟨by rfl, ?y11⟩) (by assumption) ?r11
      case y11 =>
        intro w1 hSw
        go_simp
        try with_reducible rfl
      try simp only [List.getElem_toArray, List.getElem_cons_zero, List.getElem_cons_succ, Act.put, List.setIfInBounds_toArray, List.set_cons_zero, List.set_cons_succ]
      refine wpAnyH_take (i := 14) (v := v) rfl (by kernel_rfl) (by kernel_rfl) (by kernel_rfl) (fun _ _ _ h => h) (Or.inl ⟨by rfl, ?y12⟩) (by assumption) ?r12
      case y12 =>
        intro w1 hSw
        go_simp
        try with_reducible rfl
      try simp only [List.getElem_toArray, List.getElem_cons_zero, List.getElem_cons_succ, Act.put, List.setIfInBounds_toArray, List.set_cons_zero, List.set_cons_succ]
      refine wpAnyH_done (by kernel_rfl) ?_ _
      refine NoPanic.normal ?_
      go_wp2_with fail
      go_meet
      exact hq.base hHeld.1
    · skip
      go_simp
      refine hK.out _ _ (hHeld.keep (below1 _ _)) (fun hHeld => ?_)
      clear hK K
      have hD := PtAt.new W0 P Q 95
      have hdl : W0.heap.size < (W0.alloc (.cells #[.float .f64 P, .float .f64 Q] 95)).heap.size := by simp
      generalize W0.heap.size = dd at *
      generalize W0.alloc (.cells #[.float .f64 P, .float .f64 Q] 95) = W1 at *
      try simp only [List.getElem_toArray, List.getElem_cons_zero, List.getElem_cons_succ, Act.put, List.setIfInBounds_toArray, List.set_cons_zero, List.set_cons_succ]
      refine wpAnyH_ready (rs := [2]) (by kernel_rfl) (by simp) (AllReadyH.cons rfl (fun K hK => ?_) AllReadyH.nil)
      go_simp
      refine (rectfordim x y _).mono ?_
      rintro e w2 ⟨rfl, rfl⟩
      refine hK.out _ _ (hHeld.keep (below1 _ _)) (fun hHeld => ?_)
      clear hK K
      have hR := rectAt_new W1 W1.heap.size 0 0 x y 157 rfl
      replace hD := hD.old (below1 W1 (.cells #[.float .f64 0, .float .f64 0, .float .f64 x, .float .f64 y] 157)) hdl
      replace hdl : dd < (W1.alloc (.cells #[.float .f64 0, .float .f64 0, .float .f64 x, .float .f64 y] 157)).heap.size := by simp; omega
      generalize W1.heap.size = gr at *
      generalize W1.alloc (.cells #[.float .f64 0, .float .f64 0, .float .f64 x, .float .f64 y] 157) = W2 at *
      try simp only [List.getElem_toArray, List.getElem_cons_zero, List.getElem_cons_succ, Act.put, List.setIfInBounds_toArray, List.set_cons_zero, List.set_cons_succ]
      refine wpAnyH_ready (rs := [9]) (by kernel_rfl) (by simp) (AllReadyH.cons rfl (fun K hK => ?_) AllReadyH.nil)
      go_simp
      refine (zzcuts hR hD hdl HW.out HH.out HV.out HHV.out).mono ?_
      rintro e w9 ⟨v, v', rfl, hq⟩
      refine hK.out _ _ (hHeld.keep hq.1) (fun hHeld2 => ?_)
      clear hK K
      try simp only [List.getElem_toArray, List.getElem_cons_zero, List.getElem_cons_succ, Act.put, List.setIfInBounds_toArray, List.set_cons_zero, List.set_cons_succ]
      refine wpAnyH_take (i := 10) (v := .tuple #[v', v]) rfl (by kernel_rfl) (by kernel_rfl) (by kernel_rfl) (fun _ _ _ h => h) (Or.inl ⟨by rfl, ?y13⟩) (by assumption) ?r13
      case y13 =>
        intro w1 hSw
        go_simp
        try with_reducible rfl
      try simp only [List.getElem_toArray, List.getElem_cons_zero, List.getElem_cons_succ, Act.put, List.setIfInBounds_toArray, List.set_cons_zero, List.set_cons_succ]
      refine wpAnyH_take (i := 11) (v := v') rfl (by kernel_rfl) (by kernel_rfl) (by kernel_rfl) (fun _ _ _ h => h) (Or.inl ⟨by rfl, ?y14⟩) (by assumption) ?r14
      case y14 =>
        intro w1 hSw
        go_simp
        try with_reducible rfl
      try simp only [List.getElem_toArray, List.getElem_cons_zero, List.getElem_cons_succ, Act.put, List.setIfInBounds_toArray, List.set_cons_zero, List.set_cons_succ]
      refine wpAnyH_take (i := 12) (v := v) rfl (by kernel_rfl) (by kernel_rfl) (by kernel_rfl) (fun _ _ _ h => h) (Or.inl ⟨by rfl, ?y15⟩) (by assumption) ?r15
      case y15 =>
        intro w1 hSw
        go_simp
        try with_reducible rfl
      try simp only [List.getElem_toArray, List.getElem_cons_zero, List.getElem_cons_succ, Act.put, List.setIfInBounds_toArray, List.set_cons_zero, List.set_cons_succ]
      refine wpAnyH_take (i := 13) (v := v') rfl (by kernel_rfl) (by kernel_rfl) (by kernel_rfl) (fun _ _ _ h => h) (Or.inl ⟨by rfl, ?y16⟩) (by assumption) ?r16
      case y16 =>
        intro w1 hSw
        go_simp
        try with_reducible rfl
      try simp only [List.getElem_toArray, List.getElem_cons_zero, List.getElem_cons_succ, Act.put, List.setIfInBounds_toArray, List.set_cons_zero, List.set_cons_succ]
      refine wpAnyH_take (i := 14) (v := v) rfl (by kernel_rfl) (by kernel_rfl) (by kernel_rfl) (fun _ _ _ h => h) (Or.inl ⟨by rfl, ?y17⟩) (by assumption) ?r17
      case y17 =>
        intro w1 hSw
        go_simp
        try with_reducible rfl
      try simp only [List.getElem_toArray, List.getElem_cons_zero, List.getElem_cons_succ, Act.put, List.setIfInBounds_toArray, List.set_cons_zero, List.set_cons_succ]
      refine wpAnyH_done (by kernel_rfl) ?_ _
      refine NoPanic.normal ?_
      go_wp2_with fail
      go_meet
      exact hq.base hHeld.1
  case rest =>
    go_wp2_with fail
    refine bodyPost_ret (v := .tuple #[u6, u7, .bool true]) (by simp [results, Try.results55, go_sem]) rfl ⟨u7, u6, rfl, hcut⟩
end Go.Proofs.Ytooghncdhjdcpaa
