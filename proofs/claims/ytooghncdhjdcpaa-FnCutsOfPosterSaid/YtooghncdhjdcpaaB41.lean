/-
FnCutsOfPoster: createPosterCuts walked. Conditions: the operations' words are given.
-/
import Derived.Test.YtooghncdhjdcpaaB26
import Derived.Test.YtooghncdhjdcpaaB40
import Derived.BigQuiet
import Derived.Deep.QuietTactic
import Derived.Deep.DeepCutAuto
import Derived.Deep.CutBlock
import Derived.Deep.Onto
namespace Go.Proofs.Ytooghncdhjdcpaa
open Go.RowKit Fl

theorem info22 : (Try.prog.info? 22).map (fun i => (i.zero, i.size, i.bytes)) = some (some (.float .f64 0), 1, 8) := by kernel_rfl
/-- The words of one side: places X, parts F, hundreds G, rounded r, and back T; the last round is the J-th; c: it is taken. -/
structure CutW (P W J : Nat) (c : Bool) (X F G r T : Nat → Nat) : Prop where
  x0 : X 0 = 0
  hX : ∀ k, k ≤ J → floatBits .add .f64 (X k) P = some (X (k + 1))
  hF : ∀ k, k ≤ J → floatBits .quo .f64 (X (k + 1)) W = some (F k)
  hG : ∀ k, k ≤ J → floatBits .mul .f64 (F k) 4636737291354636288 = some (G k)
  hR : ∀ k, k ≤ J → ∀ w : World, Calls Try.prog 115 #[.float .f64 (G k)] w fun e w' => e = .returned (.float .f64 (r k)) ∧ w = w'
  hT : ∀ k, k ≤ J → floatBits .quo .f64 (r k) 4636737291354636288 = some (T k)
  neq : ∀ k, k < J → (FloatKind.f64.format.order (T k) 4607182418800017408 != some Ordering.eq) = true
  geq : ∀ k, k < J → (FloatKind.f64.format.order (T k) 4607182418800017408 == some Ordering.gt || FloatKind.f64.format.order (T k) 4607182418800017408 == some Ordering.eq) = false
  neqJ : (FloatKind.f64.format.order (T J) 4607182418800017408 != some Ordering.eq) = c
  geqJ : (FloatKind.f64.format.order (T J) 4607182418800017408 == some Ordering.gt || FloatKind.f64.format.order (T J) 4607182418800017408 == some Ordering.eq) = true
  hJ : J < 1000
/-- A list of places: 0 and the first n parts. -/
def plc (F : Nat → Nat) (n : Nat) : List Value := .float .f64 0 :: (List.range n).map (fun k => .float .f64 (F k))
theorem plc_succ (F : Nat → Nat) (n : Nat) : plc F (n + 1) = plc F n ++ [.float .f64 (F n)] := by simp [plc, List.range_succ]
def lenOf : Value → Nat
  | .slice _ n _ => n
  | _ => 0
theorem own_len {W : World} {base e size n : Nat} {v : Value} {xs : List Value} (h : W.ownsRow base e size v n xs) : lenOf v = n := by
  rcases h.2 with ⟨rfl, h0⟩ | ⟨g, cap, cur, rfl, _⟩
  · exact h0.symm
  · rfl
/-- The rectangle and the measure that the cuts read. -/
def CutS (w : World) (g d x1 y1 x2 y2 P Q : Nat) (W : World) : Prop := Below w.heap.size w W ∧ RectAt W g x1 y1 x2 y2 ∧ PtAt W d P Q ∧ d < W.heap.size
theorem CutS.keep {w W W' : World} {g d x1 y1 x2 y2 P Q : Nat} (h : CutS w g d x1 y1 x2 y2 P Q W) (hb : Below W.heap.size W W') : CutS w g d x1 y1 x2 y2 P Q W' :=
  ⟨h.1.trans (hb.mono h.1.size), h.2.1.below hb, h.2.2.1.old hb h.2.2.2, Nat.lt_of_lt_of_le h.2.2.2 hb.size⟩
theorem row_step {w wr W2 w' : World} {v v' : Value} {k : Nat} {F : Nat → Nat} {a : Nat} (hb : Below w.heap.size w wr) (ho : wr.ownsRow w.heap.size 22 1 v (k + 1) (plc F k)) (ea : F k = a)
    (ho' : w'.ownsRow w.heap.size 22 1 v' (k + 1 + 1) (plc F k ++ [.float .f64 a])) (hW : Below wr.heap.size wr W2) (hg : W2.grownBy w' v.ownBlock) : Below w.heap.size w w' ∧ w'.ownsRow w.heap.size 22 1 v' (k + 1 + 1) (plc F (k + 1)) := by
  refine ⟨(hb.trans (hW.mono hb.size)).grown hg (by have := hb.size; have := hW.size; omega) (fun j hj => (ho.lt j hj).1), ?_⟩
  subst ea
  rw [plc_succ]
  exact ho'
set_option linter.unusedSimpArgs false in
set_option maxRecDepth 100000 in
set_option maxHeartbeats 16000000 in
theorem poster {w : World} {g d x1 y1 x2 y2 P Q Wd Hd J J' : Nat} {c c' : Bool} {X F G r T X' F' G' r' T' : Nat → Nat} (hg : RectAt w g x1 y1 x2 y2) (hd : PtAt w d P Q) (hdl : d < w.heap.size)
    (hW : floatBits .sub .f64 x2 x1 = some Wd) (hH : floatBits .sub .f64 y2 y1 = some Hd) (V : CutW P Wd J c X F G r T) (H : CutW Q Hd J' c' X' F' G' r' T') :
    Calls Try.prog 112 #[ptrV g, ptrV d] w fun e w' => ∃ v v', e = .returned (.tuple #[v', v]) ∧ Below w.heap.size w w' ∧ w'.ownsRow w.heap.size 22 1 v (J + 1 + c.toNat) (plc F (J + c.toNat)) ∧ w'.ownsRow w.heap.size 22 1 v' (J' + 1 + c'.toNat) (plc F' (J' + c'.toNat)) := by
  have HV := Lib.hid V
  have HH := Lib.hid H
  have HW := Lib.hid hW
  have HHd := Lib.hid hH
  have HS := Lib.hid (show CutS w g d x1 y1 x2 y2 P Q w from ⟨Below.refl _ _, hg, hd, hdl⟩)
  obtain ⟨i0, hi, hz0, hz1, hz2⟩ := info_parts info22
  clear V H hW hH hg hd hdl
  go_enter Try.func112, Try.ntmps112

  go_upto_block 0 with fail
  go_cut [6] (fun v6 wx => Hid (Below w.heap.size w wx ∧ wx.ownsRow w.heap.size 22 1 v6 (J + 1 + c.toNat) (plc F (J + c.toNat))))
  case first =>
    go_wp2_with fail
    go_loopw [6, 7] (fun v6 x wr => ∃ k : Nat, k ≤ J ∧ x = .float .f64 (X k) ∧ Hid (Below w.heap.size w wr ∧ wr.ownsRow w.heap.size 22 1 v6 (k + 1) (plc F k))) (fun v6 _ _ => J + 2 - lenOf v6)
    case atStart => exact ⟨0, Nat.zero_le _, by rw [HV.out.x0], Lib.hid ⟨below1 _ _, World.ownsRow_lit w #[.float .f64 0] 1 (Nat.le_refl _) (by decide) rfl⟩⟩
    case round =>
      obtain ⟨k, hk, rfl, hS⟩ := hrel
      have hC : CutS wr g d x1 y1 x2 y2 P Q wr := ⟨Below.refl _ _, (HS.out.keep hS.out.1).2⟩
      have HO := Lib.hid hS.out.2
      have e1 := HV.out.hX k hk
      have e2 := HV.out.hF k hk
      have e3 := HV.out.hG k hk
      have e4 := HV.out.hR k hk
      have e5 := HV.out.hT k hk
      have hkJ := HV.out.hJ
      obtain ⟨a0, Ea0⟩ : ∃ z, X k = z := ⟨_, rfl⟩
      obtain ⟨a1, Ea1⟩ : ∃ z, X (k + 1) = z := ⟨_, rfl⟩
      obtain ⟨f, Ef⟩ : ∃ z, F k = z := ⟨_, rfl⟩
      obtain ⟨gg, Egg⟩ : ∃ z, G k = z := ⟨_, rfl⟩
      obtain ⟨rr, Err⟩ : ∃ z, r k = z := ⟨_, rfl⟩
      obtain ⟨tt, Ett⟩ : ∃ z, T k = z := ⟨_, rfl⟩
      rw [Ea0, Ea1] at e1; rw [Ea1, Ef] at e2; rw [Ef, Egg] at e3; rw [Egg, Err] at e4; rw [Err, Ett] at e5; rw [Ea0]
      have O1 := run_bin (P := Try.prog) .add e1
      have O2 := run_bin (P := Try.prog) .quo e2
      have O3 := run_bin (P := Try.prog) .mul e3
      have O5 := run_bin (P := Try.prog) .quo e5
      have E4 := Lib.hid e4
      have HK := Lib.hid hk
      have EA := Lib.hid Ea1
      have EF := Lib.hid Ef
      have HSB := Lib.hid hS.out.1
      by_cases hlt : k < J
      · have n1 := HV.out.neq k hlt
        have n2 := HV.out.geq k hlt
        rw [Ett] at n1 n2
        clear e1 e2 e3 e4 e5 Ea0 Ea1 Ef Egg Err Ett hS
        go_wp2_with fail
        refine wp_region_noPanic ?_
        refine wp_region_held_drew (S := CutS wr g d x1 y1 x2 y2 P Q) (by kernel_rfl) ?_ (fun hHeld => ?_)
        · exact hC.keep (Below.refl _ _).drew
        refine wpAnyH_take (i := 0) (v := .float .f64 a0) rfl (by kernel_rfl) (by kernel_rfl) (by kernel_rfl) (fun _ _ _ h => h) (Or.inl ⟨by rfl, ?y1⟩) (by assumption) ?r1
        case y1 =>
          intro w1 hSw
          go_simp
          try with_reducible rfl
        try simp only [List.getElem_toArray, List.getElem_cons_zero, List.getElem_cons_succ, Act.put, List.setIfInBounds_toArray, List.set_cons_zero, List.set_cons_succ]
        refine wpAnyH_take (i := 1) (v := ptrV d) rfl (by kernel_rfl) (by kernel_rfl) (by kernel_rfl) (fun _ _ _ h => h) (Or.inl ⟨by rfl, ?y2⟩) (by assumption) ?r2
        case y2 =>
          intro w1 hSw
          go_simp
          try with_reducible rfl
        try simp only [List.getElem_toArray, List.getElem_cons_zero, List.getElem_cons_succ, Act.put, List.setIfInBounds_toArray, List.set_cons_zero, List.set_cons_succ]
        refine wpAnyH_take (i := 2) (v := ptrV d) rfl (by kernel_rfl) (by kernel_rfl) (by kernel_rfl) (fun _ _ _ h => h) (Or.inl ⟨by rfl, ?y3⟩) (by assumption) ?r3
        case y3 =>
          intro w1 hSw
          go_simp
          try with_reducible rfl
        try simp only [List.getElem_toArray, List.getElem_cons_zero, List.getElem_cons_succ, Act.put, List.setIfInBounds_toArray, List.set_cons_zero, List.set_cons_succ]
        refine wpAnyH_take (i := 3) (v := .pointer (some ⟨d, 0, none⟩)) rfl (by kernel_rfl) (by kernel_rfl) (by kernel_rfl) (fun _ _ _ h => h) (Or.inl ⟨by rfl, ?y4⟩) (by assumption) ?r4
        case y4 =>
          intro w1 hSw
          go_simp
          try with_reducible rfl
        try simp only [List.getElem_toArray, List.getElem_cons_zero, List.getElem_cons_succ, Act.put, List.setIfInBounds_toArray, List.set_cons_zero, List.set_cons_succ]
        refine wpAnyH_take (i := 4) (v := .float .f64 P) rfl (by kernel_rfl) (by kernel_rfl) (by kernel_rfl) (fun _ _ _ h => h) (Or.inl ⟨by rfl, ?y5⟩) (by assumption) ?r5
        case y5 =>
          intro w1 hSw
          have c0 := hSw.2.2.1.1
          have c1 := hSw.2.2.1.2.1
          go_simp
          try with_reducible rfl
        try simp only [List.getElem_toArray, List.getElem_cons_zero, List.getElem_cons_succ, Act.put, List.setIfInBounds_toArray, List.set_cons_zero, List.set_cons_succ]
        refine wpAnyH_take (i := 5) (v := .float .f64 a1) rfl (by kernel_rfl) (by kernel_rfl) (by kernel_rfl) (fun _ _ _ h => h) (Or.inl ⟨by rfl, ?y6⟩) (by assumption) ?r6
        case y6 =>
          intro w1 hSw
          go_simp
          try with_reducible rfl
        try simp only [List.getElem_toArray, List.getElem_cons_zero, List.getElem_cons_succ, Act.put, List.setIfInBounds_toArray, List.set_cons_zero, List.set_cons_succ]
        refine wpAnyH_take (i := 6) (v := ptrV g) rfl (by kernel_rfl) (by kernel_rfl) (by kernel_rfl) (fun _ _ _ h => h) (Or.inl ⟨by rfl, ?y7⟩) (by assumption) ?r7
        case y7 =>
          intro w1 hSw
          go_simp
          try with_reducible rfl
        try simp only [List.getElem_toArray, List.getElem_cons_zero, List.getElem_cons_succ, Act.put, List.setIfInBounds_toArray, List.set_cons_zero, List.set_cons_succ]
        refine wpAnyH_take (i := 7) (v := ptrV g) rfl (by kernel_rfl) (by kernel_rfl) (by kernel_rfl) (fun _ _ _ h => h) (Or.inl ⟨by rfl, ?y8⟩) (by assumption) ?r8
        case y8 =>
          intro w1 hSw
          go_simp
          try with_reducible rfl
        try simp only [List.getElem_toArray, List.getElem_cons_zero, List.getElem_cons_succ, Act.put, List.setIfInBounds_toArray, List.set_cons_zero, List.set_cons_succ]
        refine wpAnyH_take (i := 8) (v := .agg #[.float .f64 x1, .float .f64 y1, .float .f64 x2, .float .f64 y2]) rfl (by kernel_rfl) (by kernel_rfl) (by kernel_rfl) (fun _ _ _ h => h) (Or.inl ⟨by rfl, ?y9⟩) (by assumption) ?r9
        case y9 =>
          intro w1 hSw
          obtain ⟨_, k0, k1, k2, k3⟩ := hSw.2.1
          go_simp
          try with_reducible rfl
        try simp only [List.getElem_toArray, List.getElem_cons_zero, List.getElem_cons_succ, Act.put, List.setIfInBounds_toArray, List.set_cons_zero, List.set_cons_succ]
        refine wpAnyH_ready (rs := [9]) (by kernel_rfl) (by simp) (AllReadyH.cons rfl (fun K hK => ?_) AllReadyH.nil)
        go_simp
        refine (width_any _ HW.out).mono ?_
        rintro e W1 ⟨rfl, hb⟩
        refine hK.out _ _ (hHeld.keep hb) (fun hHeld => ?_)
        clear hK K
        clear hb
        try simp only [List.getElem_toArray, List.getElem_cons_zero, List.getElem_cons_succ, Act.put, List.setIfInBounds_toArray, List.set_cons_zero, List.set_cons_succ]
        refine wpAnyH_take (i := 10) (v := .float .f64 f) rfl (by kernel_rfl) (by kernel_rfl) (by kernel_rfl) (fun _ _ _ h => h) (Or.inl ⟨by rfl, ?y10⟩) (by assumption) ?r10
        case y10 =>
          intro w1 hSw
          go_simp
          try with_reducible rfl
        try simp only [List.getElem_toArray, List.getElem_cons_zero, List.getElem_cons_succ, Act.put, List.setIfInBounds_toArray, List.set_cons_zero, List.set_cons_succ]
        refine wpAnyH_take (i := 11) (v := .float .f64 f) rfl (by kernel_rfl) (by kernel_rfl) (by kernel_rfl) (fun _ _ _ h => h) (Or.inl ⟨by rfl, ?y11⟩) (by assumption) ?r11
        case y11 =>
          intro w1 hSw
          go_simp
          try with_reducible rfl
        try simp only [List.getElem_toArray, List.getElem_cons_zero, List.getElem_cons_succ, Act.put, List.setIfInBounds_toArray, List.set_cons_zero, List.set_cons_succ]
        refine wpAnyH_done (by kernel_rfl) ?_ _
        refine NoPanic.normal ?_
        have HW1 := Lib.hid hHeld.1
        have cd := (hHeld.2.2.1.1)
        have cd2 := (hHeld.2.2.1.2.1)
        go_wp2_with (first | (go_at_call 115; refine (E4.out _).mono ?_; rintro e w' ⟨rfl, rfl⟩) | (at_builtin; refine wpList_append_own _ rfl (.tmp 38) (.tmp 40) 59 rfl w.heap.size 22 i0 (.float .f64 0) 1 8 Try.underlying59 hi hz0 hz1 hz2 rfl (by decide) _ (k + 1) _ rfl ((own_keep HO.out HW1.out).alloc _) ⟨W1.heap.size, 0, none⟩ 1 1 [.float .f64 f] rfl rfl (new_at _ _ rfl _ _) (fun u hu => by simp at hu; subst hu; rfl) (by unfold maxLen; omega) (by omega) (by have := HSB.out.size; have := HW1.out.size; simp; omega) ?_; intro v' w' ho' hg' _; have hst := row_step HSB.out HO.out EF.out ho' (bel_alloc _ HW1.out) hg'; have cd3 := (HS.out.keep hst.1).2.2.1.1; have cd4 := (HS.out.keep hst.1).2.2.1.2.1; have HST := Lib.hid hst; clear ho' hg' hst))
        go_roundw
        case rel => exact ⟨k + 1, by have := HK.out; omega, by rw [EA.out], HST⟩
        case measure => rw [own_len HST.out.2, own_len HO.out]; omega
      · obtain rfl : k = J := by have := HK.out; omega
        have n1 := HV.out.neqJ
        have n2 := HV.out.geqJ
        rw [Ett] at n1 n2
        clear e1 e2 e3 e4 e5 Ea0 Ea1 Ef Egg Err Ett hS
        cases c
        · skip
          go_wp2_with fail
          refine wp_region_noPanic ?_
          refine wp_region_held_drew (S := CutS wr g d x1 y1 x2 y2 P Q) (by kernel_rfl) ?_ (fun hHeld => ?_)
          · exact hC.keep (Below.refl _ _).drew
          refine wpAnyH_take (i := 0) (v := .float .f64 a0) rfl (by kernel_rfl) (by kernel_rfl) (by kernel_rfl) (fun _ _ _ h => h) (Or.inl ⟨by rfl, ?y12⟩) (by assumption) ?r12
          case y12 =>
            intro w1 hSw
            go_simp
            try with_reducible rfl
          try simp only [List.getElem_toArray, List.getElem_cons_zero, List.getElem_cons_succ, Act.put, List.setIfInBounds_toArray, List.set_cons_zero, List.set_cons_succ]
          refine wpAnyH_take (i := 1) (v := ptrV d) rfl (by kernel_rfl) (by kernel_rfl) (by kernel_rfl) (fun _ _ _ h => h) (Or.inl ⟨by rfl, ?y13⟩) (by assumption) ?r13
          case y13 =>
            intro w1 hSw
            go_simp
            try with_reducible rfl
          try simp only [List.getElem_toArray, List.getElem_cons_zero, List.getElem_cons_succ, Act.put, List.setIfInBounds_toArray, List.set_cons_zero, List.set_cons_succ]
          refine wpAnyH_take (i := 2) (v := ptrV d) rfl (by kernel_rfl) (by kernel_rfl) (by kernel_rfl) (fun _ _ _ h => h) (Or.inl ⟨by rfl, ?y14⟩) (by assumption) ?r14
          case y14 =>
            intro w1 hSw
            go_simp
            try with_reducible rfl
          try simp only [List.getElem_toArray, List.getElem_cons_zero, List.getElem_cons_succ, Act.put, List.setIfInBounds_toArray, List.set_cons_zero, List.set_cons_succ]
          refine wpAnyH_take (i := 3) (v := .pointer (some ⟨d, 0, none⟩)) rfl (by kernel_rfl) (by kernel_rfl) (by kernel_rfl) (fun _ _ _ h => h) (Or.inl ⟨by rfl, ?y15⟩) (by assumption) ?r15
          case y15 =>
            intro w1 hSw
            go_simp
            try with_reducible rfl
          try simp only [List.getElem_toArray, List.getElem_cons_zero, List.getElem_cons_succ, Act.put, List.setIfInBounds_toArray, List.set_cons_zero, List.set_cons_succ]
          refine wpAnyH_take (i := 4) (v := .float .f64 P) rfl (by kernel_rfl) (by kernel_rfl) (by kernel_rfl) (fun _ _ _ h => h) (Or.inl ⟨by rfl, ?y16⟩) (by assumption) ?r16
          case y16 =>
            intro w1 hSw
            have c0 := hSw.2.2.1.1
            have c1 := hSw.2.2.1.2.1
            go_simp
            try with_reducible rfl
          try simp only [List.getElem_toArray, List.getElem_cons_zero, List.getElem_cons_succ, Act.put, List.setIfInBounds_toArray, List.set_cons_zero, List.set_cons_succ]
          refine wpAnyH_take (i := 5) (v := .float .f64 a1) rfl (by kernel_rfl) (by kernel_rfl) (by kernel_rfl) (fun _ _ _ h => h) (Or.inl ⟨by rfl, ?y17⟩) (by assumption) ?r17
          case y17 =>
            intro w1 hSw
            go_simp
            try with_reducible rfl
          try simp only [List.getElem_toArray, List.getElem_cons_zero, List.getElem_cons_succ, Act.put, List.setIfInBounds_toArray, List.set_cons_zero, List.set_cons_succ]
          refine wpAnyH_take (i := 6) (v := ptrV g) rfl (by kernel_rfl) (by kernel_rfl) (by kernel_rfl) (fun _ _ _ h => h) (Or.inl ⟨by rfl, ?y18⟩) (by assumption) ?r18
          case y18 =>
            intro w1 hSw
            go_simp
            try with_reducible rfl
          try simp only [List.getElem_toArray, List.getElem_cons_zero, List.getElem_cons_succ, Act.put, List.setIfInBounds_toArray, List.set_cons_zero, List.set_cons_succ]
          refine wpAnyH_take (i := 7) (v := ptrV g) rfl (by kernel_rfl) (by kernel_rfl) (by kernel_rfl) (fun _ _ _ h => h) (Or.inl ⟨by rfl, ?y19⟩) (by assumption) ?r19
          case y19 =>
            intro w1 hSw
            go_simp
            try with_reducible rfl
          try simp only [List.getElem_toArray, List.getElem_cons_zero, List.getElem_cons_succ, Act.put, List.setIfInBounds_toArray, List.set_cons_zero, List.set_cons_succ]
          refine wpAnyH_take (i := 8) (v := .agg #[.float .f64 x1, .float .f64 y1, .float .f64 x2, .float .f64 y2]) rfl (by kernel_rfl) (by kernel_rfl) (by kernel_rfl) (fun _ _ _ h => h) (Or.inl ⟨by rfl, ?y20⟩) (by assumption) ?r20
          case y20 =>
            intro w1 hSw
            obtain ⟨_, k0, k1, k2, k3⟩ := hSw.2.1
            go_simp
            try with_reducible rfl
          try simp only [List.getElem_toArray, List.getElem_cons_zero, List.getElem_cons_succ, Act.put, List.setIfInBounds_toArray, List.set_cons_zero, List.set_cons_succ]
          refine wpAnyH_ready (rs := [9]) (by kernel_rfl) (by simp) (AllReadyH.cons rfl (fun K hK => ?_) AllReadyH.nil)
          go_simp
          refine (width_any _ HW.out).mono ?_
          rintro e W1 ⟨rfl, hb⟩
          refine hK.out _ _ (hHeld.keep hb) (fun hHeld => ?_)
          clear hK K
          clear hb
          try simp only [List.getElem_toArray, List.getElem_cons_zero, List.getElem_cons_succ, Act.put, List.setIfInBounds_toArray, List.set_cons_zero, List.set_cons_succ]
          refine wpAnyH_take (i := 10) (v := .float .f64 f) rfl (by kernel_rfl) (by kernel_rfl) (by kernel_rfl) (fun _ _ _ h => h) (Or.inl ⟨by rfl, ?y21⟩) (by assumption) ?r21
          case y21 =>
            intro w1 hSw
            go_simp
            try with_reducible rfl
          try simp only [List.getElem_toArray, List.getElem_cons_zero, List.getElem_cons_succ, Act.put, List.setIfInBounds_toArray, List.set_cons_zero, List.set_cons_succ]
          refine wpAnyH_take (i := 11) (v := .float .f64 f) rfl (by kernel_rfl) (by kernel_rfl) (by kernel_rfl) (fun _ _ _ h => h) (Or.inl ⟨by rfl, ?y22⟩) (by assumption) ?r22
          case y22 =>
            intro w1 hSw
            go_simp
            try with_reducible rfl
          try simp only [List.getElem_toArray, List.getElem_cons_zero, List.getElem_cons_succ, Act.put, List.setIfInBounds_toArray, List.set_cons_zero, List.set_cons_succ]
          refine wpAnyH_done (by kernel_rfl) ?_ _
          refine NoPanic.normal ?_
          have HW1 := Lib.hid hHeld.1
          go_wp2_with (first | (go_at_call 115; refine (E4.out _).mono ?_; rintro e w' ⟨rfl, rfl⟩) | (at_builtin; refine wpList_append_own _ rfl (.tmp 38) (.tmp 40) 59 rfl w.heap.size 22 i0 (.float .f64 0) 1 8 Try.underlying59 hi hz0 hz1 hz2 rfl (by decide) _ (k + 1) _ rfl ((own_keep HO.out HW1.out).alloc _) ⟨W1.heap.size, 0, none⟩ 1 1 [.float .f64 f] rfl rfl (new_at _ _ rfl _ _) (fun u hu => by simp at hu; subst hu; rfl) (by unfold maxLen; omega) (by omega) (by have := HSB.out.size; have := HW1.out.size; simp; omega) ?_; intro v' w' ho' hg' _; have hst := row_step HSB.out HO.out EF.out ho' (bel_alloc _ HW1.out) hg'; have cd3 := (HS.out.keep hst.1).2.2.1.1; have cd4 := (HS.out.keep hst.1).2.2.1.2.1; have HST := Lib.hid hst; clear ho' hg' hst))
          go_meet
          exact Lib.hid ⟨HSB.out.trans (HW1.out.mono HSB.out.size), own_keep HO.out HW1.out⟩
        · skip
          go_wp2_with fail
          refine wp_region_noPanic ?_
          refine wp_region_held_drew (S := CutS wr g d x1 y1 x2 y2 P Q) (by kernel_rfl) ?_ (fun hHeld => ?_)
          · exact hC.keep (Below.refl _ _).drew
          refine wpAnyH_take (i := 0) (v := .float .f64 a0) rfl (by kernel_rfl) (by kernel_rfl) (by kernel_rfl) (fun _ _ _ h => h) (Or.inl ⟨by rfl, ?y23⟩) (by assumption) ?r23
          case y23 =>
            intro w1 hSw
            go_simp
            try with_reducible rfl
          try simp only [List.getElem_toArray, List.getElem_cons_zero, List.getElem_cons_succ, Act.put, List.setIfInBounds_toArray, List.set_cons_zero, List.set_cons_succ]
          refine wpAnyH_take (i := 1) (v := ptrV d) rfl (by kernel_rfl) (by kernel_rfl) (by kernel_rfl) (fun _ _ _ h => h) (Or.inl ⟨by rfl, ?y24⟩) (by assumption) ?r24
          case y24 =>
            intro w1 hSw
            go_simp
            try with_reducible rfl
          try simp only [List.getElem_toArray, List.getElem_cons_zero, List.getElem_cons_succ, Act.put, List.setIfInBounds_toArray, List.set_cons_zero, List.set_cons_succ]
          refine wpAnyH_take (i := 2) (v := ptrV d) rfl (by kernel_rfl) (by kernel_rfl) (by kernel_rfl) (fun _ _ _ h => h) (Or.inl ⟨by rfl, ?y25⟩) (by assumption) ?r25
          case y25 =>
            intro w1 hSw
            go_simp
            try with_reducible rfl
          try simp only [List.getElem_toArray, List.getElem_cons_zero, List.getElem_cons_succ, Act.put, List.setIfInBounds_toArray, List.set_cons_zero, List.set_cons_succ]
          refine wpAnyH_take (i := 3) (v := .pointer (some ⟨d, 0, none⟩)) rfl (by kernel_rfl) (by kernel_rfl) (by kernel_rfl) (fun _ _ _ h => h) (Or.inl ⟨by rfl, ?y26⟩) (by assumption) ?r26
          case y26 =>
            intro w1 hSw
            go_simp
            try with_reducible rfl
          try simp only [List.getElem_toArray, List.getElem_cons_zero, List.getElem_cons_succ, Act.put, List.setIfInBounds_toArray, List.set_cons_zero, List.set_cons_succ]
          refine wpAnyH_take (i := 4) (v := .float .f64 P) rfl (by kernel_rfl) (by kernel_rfl) (by kernel_rfl) (fun _ _ _ h => h) (Or.inl ⟨by rfl, ?y27⟩) (by assumption) ?r27
          case y27 =>
            intro w1 hSw
            have c0 := hSw.2.2.1.1
            have c1 := hSw.2.2.1.2.1
            go_simp
            try with_reducible rfl
          try simp only [List.getElem_toArray, List.getElem_cons_zero, List.getElem_cons_succ, Act.put, List.setIfInBounds_toArray, List.set_cons_zero, List.set_cons_succ]
          refine wpAnyH_take (i := 5) (v := .float .f64 a1) rfl (by kernel_rfl) (by kernel_rfl) (by kernel_rfl) (fun _ _ _ h => h) (Or.inl ⟨by rfl, ?y28⟩) (by assumption) ?r28
          case y28 =>
            intro w1 hSw
            go_simp
            try with_reducible rfl
          try simp only [List.getElem_toArray, List.getElem_cons_zero, List.getElem_cons_succ, Act.put, List.setIfInBounds_toArray, List.set_cons_zero, List.set_cons_succ]
          refine wpAnyH_take (i := 6) (v := ptrV g) rfl (by kernel_rfl) (by kernel_rfl) (by kernel_rfl) (fun _ _ _ h => h) (Or.inl ⟨by rfl, ?y29⟩) (by assumption) ?r29
          case y29 =>
            intro w1 hSw
            go_simp
            try with_reducible rfl
          try simp only [List.getElem_toArray, List.getElem_cons_zero, List.getElem_cons_succ, Act.put, List.setIfInBounds_toArray, List.set_cons_zero, List.set_cons_succ]
          refine wpAnyH_take (i := 7) (v := ptrV g) rfl (by kernel_rfl) (by kernel_rfl) (by kernel_rfl) (fun _ _ _ h => h) (Or.inl ⟨by rfl, ?y30⟩) (by assumption) ?r30
          case y30 =>
            intro w1 hSw
            go_simp
            try with_reducible rfl
          try simp only [List.getElem_toArray, List.getElem_cons_zero, List.getElem_cons_succ, Act.put, List.setIfInBounds_toArray, List.set_cons_zero, List.set_cons_succ]
          refine wpAnyH_take (i := 8) (v := .agg #[.float .f64 x1, .float .f64 y1, .float .f64 x2, .float .f64 y2]) rfl (by kernel_rfl) (by kernel_rfl) (by kernel_rfl) (fun _ _ _ h => h) (Or.inl ⟨by rfl, ?y31⟩) (by assumption) ?r31
          case y31 =>
            intro w1 hSw
            obtain ⟨_, k0, k1, k2, k3⟩ := hSw.2.1
            go_simp
            try with_reducible rfl
          try simp only [List.getElem_toArray, List.getElem_cons_zero, List.getElem_cons_succ, Act.put, List.setIfInBounds_toArray, List.set_cons_zero, List.set_cons_succ]
          refine wpAnyH_ready (rs := [9]) (by kernel_rfl) (by simp) (AllReadyH.cons rfl (fun K hK => ?_) AllReadyH.nil)
          go_simp
          refine (width_any _ HW.out).mono ?_
          rintro e W1 ⟨rfl, hb⟩
          refine hK.out _ _ (hHeld.keep hb) (fun hHeld => ?_)
          clear hK K
          clear hb
          try simp only [List.getElem_toArray, List.getElem_cons_zero, List.getElem_cons_succ, Act.put, List.setIfInBounds_toArray, List.set_cons_zero, List.set_cons_succ]
          refine wpAnyH_take (i := 10) (v := .float .f64 f) rfl (by kernel_rfl) (by kernel_rfl) (by kernel_rfl) (fun _ _ _ h => h) (Or.inl ⟨by rfl, ?y32⟩) (by assumption) ?r32
          case y32 =>
            intro w1 hSw
            go_simp
            try with_reducible rfl
          try simp only [List.getElem_toArray, List.getElem_cons_zero, List.getElem_cons_succ, Act.put, List.setIfInBounds_toArray, List.set_cons_zero, List.set_cons_succ]
          refine wpAnyH_take (i := 11) (v := .float .f64 f) rfl (by kernel_rfl) (by kernel_rfl) (by kernel_rfl) (fun _ _ _ h => h) (Or.inl ⟨by rfl, ?y33⟩) (by assumption) ?r33
          case y33 =>
            intro w1 hSw
            go_simp
            try with_reducible rfl
          try simp only [List.getElem_toArray, List.getElem_cons_zero, List.getElem_cons_succ, Act.put, List.setIfInBounds_toArray, List.set_cons_zero, List.set_cons_succ]
          refine wpAnyH_done (by kernel_rfl) ?_ _
          refine NoPanic.normal ?_
          have HW1 := Lib.hid hHeld.1
          go_wp2_with (first | (go_at_call 115; refine (E4.out _).mono ?_; rintro e w' ⟨rfl, rfl⟩) | (at_builtin; refine wpList_append_own _ rfl (.tmp 38) (.tmp 40) 59 rfl w.heap.size 22 i0 (.float .f64 0) 1 8 Try.underlying59 hi hz0 hz1 hz2 rfl (by decide) _ (k + 1) _ rfl ((own_keep HO.out HW1.out).alloc _) ⟨W1.heap.size, 0, none⟩ 1 1 [.float .f64 f] rfl rfl (new_at _ _ rfl _ _) (fun u hu => by simp at hu; subst hu; rfl) (by unfold maxLen; omega) (by omega) (by have := HSB.out.size; have := HW1.out.size; simp; omega) ?_; intro v' w' ho' hg' _; have hst := row_step HSB.out HO.out EF.out ho' (bel_alloc _ HW1.out) hg'; have cd3 := (HS.out.keep hst.1).2.2.1.1; have cd4 := (HS.out.keep hst.1).2.2.1.2.1; have HST := Lib.hid hst; clear ho' hg' hst))
          go_meet
          exact HST
  case rest =>
    have HV6 := hcut
    have HSC : Hid (CutS wc g d x1 y1 x2 y2 P Q wc) := Lib.hid ⟨Below.refl _ _, (HS.out.keep HV6.out.1).2⟩
    go_wp2_with fail
    go_loopw [10, 11] (fun v10 x wr => ∃ k : Nat, k ≤ J' ∧ x = .float .f64 (X' k) ∧ Hid (Below wc.heap.size wc wr ∧ wr.ownsRow wc.heap.size 22 1 v10 (k + 1) (plc F' k))) (fun v10 _ _ => J' + 2 - lenOf v10)
    case atStart => exact ⟨0, Nat.zero_le _, by rw [HH.out.x0], Lib.hid ⟨below1 _ _, World.ownsRow_lit wc #[.float .f64 0] 1 (Nat.le_refl _) (by decide) rfl⟩⟩
    case round =>
      obtain ⟨k, hk, rfl, hS⟩ := hrel
      have hC : CutS wr g d x1 y1 x2 y2 P Q wr := ⟨Below.refl _ _, (HSC.out.keep hS.out.1).2⟩
      have HO := Lib.hid hS.out.2
      have e1 := HH.out.hX k hk
      have e2 := HH.out.hF k hk
      have e3 := HH.out.hG k hk
      have e4 := HH.out.hR k hk
      have e5 := HH.out.hT k hk
      have hkJ := HH.out.hJ
      obtain ⟨a0, Ea0⟩ : ∃ z, X' k = z := ⟨_, rfl⟩
      obtain ⟨a1, Ea1⟩ : ∃ z, X' (k + 1) = z := ⟨_, rfl⟩
      obtain ⟨f, Ef⟩ : ∃ z, F' k = z := ⟨_, rfl⟩
      obtain ⟨gg, Egg⟩ : ∃ z, G' k = z := ⟨_, rfl⟩
      obtain ⟨rr, Err⟩ : ∃ z, r' k = z := ⟨_, rfl⟩
      obtain ⟨tt, Ett⟩ : ∃ z, T' k = z := ⟨_, rfl⟩
      rw [Ea0, Ea1] at e1; rw [Ea1, Ef] at e2; rw [Ef, Egg] at e3; rw [Egg, Err] at e4; rw [Err, Ett] at e5; rw [Ea0]
      have O1 := run_bin (P := Try.prog) .add e1
      have O2 := run_bin (P := Try.prog) .quo e2
      have O3 := run_bin (P := Try.prog) .mul e3
      have O5 := run_bin (P := Try.prog) .quo e5
      have E4 := Lib.hid e4
      have HK := Lib.hid hk
      have EA := Lib.hid Ea1
      have EF := Lib.hid Ef
      have HSB := Lib.hid hS.out.1
      by_cases hlt : k < J'
      · have n1 := HH.out.neq k hlt
        have n2 := HH.out.geq k hlt
        rw [Ett] at n1 n2
        clear e1 e2 e3 e4 e5 Ea0 Ea1 Ef Egg Err Ett hS
        go_wp2_with fail
        refine wp_region_noPanic ?_
        refine wp_region_held_drew (S := CutS wr g d x1 y1 x2 y2 P Q) (by kernel_rfl) ?_ (fun hHeld => ?_)
        · exact hC.keep (Below.refl _ _).drew
        refine wpAnyH_take (i := 0) (v := .float .f64 a0) rfl (by kernel_rfl) (by kernel_rfl) (by kernel_rfl) (fun _ _ _ h => h) (Or.inl ⟨by rfl, ?y34⟩) (by assumption) ?r34
        case y34 =>
          intro w1 hSw
          go_simp
          try with_reducible rfl
        try simp only [List.getElem_toArray, List.getElem_cons_zero, List.getElem_cons_succ, Act.put, List.setIfInBounds_toArray, List.set_cons_zero, List.set_cons_succ]
        refine wpAnyH_take (i := 1) (v := ptrV d) rfl (by kernel_rfl) (by kernel_rfl) (by kernel_rfl) (fun _ _ _ h => h) (Or.inl ⟨by rfl, ?y35⟩) (by assumption) ?r35
        case y35 =>
          intro w1 hSw
          go_simp
          try with_reducible rfl
        try simp only [List.getElem_toArray, List.getElem_cons_zero, List.getElem_cons_succ, Act.put, List.setIfInBounds_toArray, List.set_cons_zero, List.set_cons_succ]
        refine wpAnyH_take (i := 2) (v := ptrV d) rfl (by kernel_rfl) (by kernel_rfl) (by kernel_rfl) (fun _ _ _ h => h) (Or.inl ⟨by rfl, ?y36⟩) (by assumption) ?r36
        case y36 =>
          intro w1 hSw
          go_simp
          try with_reducible rfl
        try simp only [List.getElem_toArray, List.getElem_cons_zero, List.getElem_cons_succ, Act.put, List.setIfInBounds_toArray, List.set_cons_zero, List.set_cons_succ]
        refine wpAnyH_take (i := 3) (v := .pointer (some ⟨d, 1, none⟩)) rfl (by kernel_rfl) (by kernel_rfl) (by kernel_rfl) (fun _ _ _ h => h) (Or.inl ⟨by rfl, ?y37⟩) (by assumption) ?r37
        case y37 =>
          intro w1 hSw
          go_simp
          try with_reducible rfl
        try simp only [List.getElem_toArray, List.getElem_cons_zero, List.getElem_cons_succ, Act.put, List.setIfInBounds_toArray, List.set_cons_zero, List.set_cons_succ]
        refine wpAnyH_take (i := 4) (v := .float .f64 Q) rfl (by kernel_rfl) (by kernel_rfl) (by kernel_rfl) (fun _ _ _ h => h) (Or.inl ⟨by rfl, ?y38⟩) (by assumption) ?r38
        case y38 =>
          intro w1 hSw
          have c0 := hSw.2.2.1.1
          have c1 := hSw.2.2.1.2.1
          go_simp
          try with_reducible rfl
        try simp only [List.getElem_toArray, List.getElem_cons_zero, List.getElem_cons_succ, Act.put, List.setIfInBounds_toArray, List.set_cons_zero, List.set_cons_succ]
        refine wpAnyH_take (i := 5) (v := .float .f64 a1) rfl (by kernel_rfl) (by kernel_rfl) (by kernel_rfl) (fun _ _ _ h => h) (Or.inl ⟨by rfl, ?y39⟩) (by assumption) ?r39
        case y39 =>
          intro w1 hSw
          go_simp
          try with_reducible rfl
        try simp only [List.getElem_toArray, List.getElem_cons_zero, List.getElem_cons_succ, Act.put, List.setIfInBounds_toArray, List.set_cons_zero, List.set_cons_succ]
        refine wpAnyH_take (i := 6) (v := ptrV g) rfl (by kernel_rfl) (by kernel_rfl) (by kernel_rfl) (fun _ _ _ h => h) (Or.inl ⟨by rfl, ?y40⟩) (by assumption) ?r40
        case y40 =>
          intro w1 hSw
          go_simp
          try with_reducible rfl
        try simp only [List.getElem_toArray, List.getElem_cons_zero, List.getElem_cons_succ, Act.put, List.setIfInBounds_toArray, List.set_cons_zero, List.set_cons_succ]
        refine wpAnyH_take (i := 7) (v := ptrV g) rfl (by kernel_rfl) (by kernel_rfl) (by kernel_rfl) (fun _ _ _ h => h) (Or.inl ⟨by rfl, ?y41⟩) (by assumption) ?r41
        case y41 =>
          intro w1 hSw
          go_simp
          try with_reducible rfl
        try simp only [List.getElem_toArray, List.getElem_cons_zero, List.getElem_cons_succ, Act.put, List.setIfInBounds_toArray, List.set_cons_zero, List.set_cons_succ]
        refine wpAnyH_take (i := 8) (v := .agg #[.float .f64 x1, .float .f64 y1, .float .f64 x2, .float .f64 y2]) rfl (by kernel_rfl) (by kernel_rfl) (by kernel_rfl) (fun _ _ _ h => h) (Or.inl ⟨by rfl, ?y42⟩) (by assumption) ?r42
        case y42 =>
          intro w1 hSw
          obtain ⟨_, k0, k1, k2, k3⟩ := hSw.2.1
          go_simp
          try with_reducible rfl
        try simp only [List.getElem_toArray, List.getElem_cons_zero, List.getElem_cons_succ, Act.put, List.setIfInBounds_toArray, List.set_cons_zero, List.set_cons_succ]
        refine wpAnyH_ready (rs := [9]) (by kernel_rfl) (by simp) (AllReadyH.cons rfl (fun K hK => ?_) AllReadyH.nil)
        go_simp
        refine (height_any _ HHd.out).mono ?_
        rintro e W1 ⟨rfl, hb⟩
        refine hK.out _ _ (hHeld.keep hb) (fun hHeld => ?_)
        clear hK K
        clear hb
        try simp only [List.getElem_toArray, List.getElem_cons_zero, List.getElem_cons_succ, Act.put, List.setIfInBounds_toArray, List.set_cons_zero, List.set_cons_succ]
        refine wpAnyH_take (i := 10) (v := .float .f64 f) rfl (by kernel_rfl) (by kernel_rfl) (by kernel_rfl) (fun _ _ _ h => h) (Or.inl ⟨by rfl, ?y43⟩) (by assumption) ?r43
        case y43 =>
          intro w1 hSw
          go_simp
          try with_reducible rfl
        try simp only [List.getElem_toArray, List.getElem_cons_zero, List.getElem_cons_succ, Act.put, List.setIfInBounds_toArray, List.set_cons_zero, List.set_cons_succ]
        refine wpAnyH_take (i := 11) (v := .float .f64 f) rfl (by kernel_rfl) (by kernel_rfl) (by kernel_rfl) (fun _ _ _ h => h) (Or.inl ⟨by rfl, ?y44⟩) (by assumption) ?r44
        case y44 =>
          intro w1 hSw
          go_simp
          try with_reducible rfl
        try simp only [List.getElem_toArray, List.getElem_cons_zero, List.getElem_cons_succ, Act.put, List.setIfInBounds_toArray, List.set_cons_zero, List.set_cons_succ]
        refine wpAnyH_done (by kernel_rfl) ?_ _
        refine NoPanic.normal ?_
        have HW1 := Lib.hid hHeld.1
        have cd := (hHeld.2.2.1.1)
        have cd2 := (hHeld.2.2.1.2.1)
        go_wp2_with (first | (go_at_call 115; refine (E4.out _).mono ?_; rintro e w' ⟨rfl, rfl⟩) | (at_builtin; refine wpList_append_own _ rfl (.tmp 68) (.tmp 70) 59 rfl wc.heap.size 22 i0 (.float .f64 0) 1 8 Try.underlying59 hi hz0 hz1 hz2 rfl (by decide) _ (k + 1) _ rfl ((own_keep HO.out HW1.out).alloc _) ⟨W1.heap.size, 0, none⟩ 1 1 [.float .f64 f] rfl rfl (new_at _ _ rfl _ _) (fun u hu => by simp at hu; subst hu; rfl) (by unfold maxLen; omega) (by omega) (by have := HSB.out.size; have := HW1.out.size; simp; omega) ?_; intro v' w' ho' hg' _; have hst := row_step HSB.out HO.out EF.out ho' (bel_alloc _ HW1.out) hg'; have cd3 := (HSC.out.keep hst.1).2.2.1.1; have cd4 := (HSC.out.keep hst.1).2.2.1.2.1; have HST := Lib.hid hst; clear ho' hg' hst))
        go_roundw
        case rel => exact ⟨k + 1, by have := HK.out; omega, by rw [EA.out], HST⟩
        case measure => rw [own_len HST.out.2, own_len HO.out]; omega
      · obtain rfl : k = J' := by have := HK.out; omega
        have n1 := HH.out.neqJ
        have n2 := HH.out.geqJ
        rw [Ett] at n1 n2
        clear e1 e2 e3 e4 e5 Ea0 Ea1 Ef Egg Err Ett hS
        cases c'
        · skip
          go_wp2_with fail
          refine wp_region_noPanic ?_
          refine wp_region_held_drew (S := CutS wr g d x1 y1 x2 y2 P Q) (by kernel_rfl) ?_ (fun hHeld => ?_)
          · exact hC.keep (Below.refl _ _).drew
          refine wpAnyH_take (i := 0) (v := .float .f64 a0) rfl (by kernel_rfl) (by kernel_rfl) (by kernel_rfl) (fun _ _ _ h => h) (Or.inl ⟨by rfl, ?y45⟩) (by assumption) ?r45
          case y45 =>
            intro w1 hSw
            go_simp
            try with_reducible rfl
          try simp only [List.getElem_toArray, List.getElem_cons_zero, List.getElem_cons_succ, Act.put, List.setIfInBounds_toArray, List.set_cons_zero, List.set_cons_succ]
          refine wpAnyH_take (i := 1) (v := ptrV d) rfl (by kernel_rfl) (by kernel_rfl) (by kernel_rfl) (fun _ _ _ h => h) (Or.inl ⟨by rfl, ?y46⟩) (by assumption) ?r46
          case y46 =>
            intro w1 hSw
            go_simp
            try with_reducible rfl
          try simp only [List.getElem_toArray, List.getElem_cons_zero, List.getElem_cons_succ, Act.put, List.setIfInBounds_toArray, List.set_cons_zero, List.set_cons_succ]
          refine wpAnyH_take (i := 2) (v := ptrV d) rfl (by kernel_rfl) (by kernel_rfl) (by kernel_rfl) (fun _ _ _ h => h) (Or.inl ⟨by rfl, ?y47⟩) (by assumption) ?r47
          case y47 =>
            intro w1 hSw
            go_simp
            try with_reducible rfl
          try simp only [List.getElem_toArray, List.getElem_cons_zero, List.getElem_cons_succ, Act.put, List.setIfInBounds_toArray, List.set_cons_zero, List.set_cons_succ]
          refine wpAnyH_take (i := 3) (v := .pointer (some ⟨d, 1, none⟩)) rfl (by kernel_rfl) (by kernel_rfl) (by kernel_rfl) (fun _ _ _ h => h) (Or.inl ⟨by rfl, ?y48⟩) (by assumption) ?r48
          case y48 =>
            intro w1 hSw
            go_simp
            try with_reducible rfl
          try simp only [List.getElem_toArray, List.getElem_cons_zero, List.getElem_cons_succ, Act.put, List.setIfInBounds_toArray, List.set_cons_zero, List.set_cons_succ]
          refine wpAnyH_take (i := 4) (v := .float .f64 Q) rfl (by kernel_rfl) (by kernel_rfl) (by kernel_rfl) (fun _ _ _ h => h) (Or.inl ⟨by rfl, ?y49⟩) (by assumption) ?r49
          case y49 =>
            intro w1 hSw
            have c0 := hSw.2.2.1.1
            have c1 := hSw.2.2.1.2.1
            go_simp
            try with_reducible rfl
          try simp only [List.getElem_toArray, List.getElem_cons_zero, List.getElem_cons_succ, Act.put, List.setIfInBounds_toArray, List.set_cons_zero, List.set_cons_succ]
          refine wpAnyH_take (i := 5) (v := .float .f64 a1) rfl (by kernel_rfl) (by kernel_rfl) (by kernel_rfl) (fun _ _ _ h => h) (Or.inl ⟨by rfl, ?y50⟩) (by assumption) ?r50
          case y50 =>
            intro w1 hSw
            go_simp
            try with_reducible rfl
          try simp only [List.getElem_toArray, List.getElem_cons_zero, List.getElem_cons_succ, Act.put, List.setIfInBounds_toArray, List.set_cons_zero, List.set_cons_succ]
          refine wpAnyH_take (i := 6) (v := ptrV g) rfl (by kernel_rfl) (by kernel_rfl) (by kernel_rfl) (fun _ _ _ h => h) (Or.inl ⟨by rfl, ?y51⟩) (by assumption) ?r51
          case y51 =>
            intro w1 hSw
            go_simp
            try with_reducible rfl
          try simp only [List.getElem_toArray, List.getElem_cons_zero, List.getElem_cons_succ, Act.put, List.setIfInBounds_toArray, List.set_cons_zero, List.set_cons_succ]
          refine wpAnyH_take (i := 7) (v := ptrV g) rfl (by kernel_rfl) (by kernel_rfl) (by kernel_rfl) (fun _ _ _ h => h) (Or.inl ⟨by rfl, ?y52⟩) (by assumption) ?r52
          case y52 =>
            intro w1 hSw
            go_simp
            try with_reducible rfl
          try simp only [List.getElem_toArray, List.getElem_cons_zero, List.getElem_cons_succ, Act.put, List.setIfInBounds_toArray, List.set_cons_zero, List.set_cons_succ]
          refine wpAnyH_take (i := 8) (v := .agg #[.float .f64 x1, .float .f64 y1, .float .f64 x2, .float .f64 y2]) rfl (by kernel_rfl) (by kernel_rfl) (by kernel_rfl) (fun _ _ _ h => h) (Or.inl ⟨by rfl, ?y53⟩) (by assumption) ?r53
          case y53 =>
            intro w1 hSw
            obtain ⟨_, k0, k1, k2, k3⟩ := hSw.2.1
            go_simp
            try with_reducible rfl
          try simp only [List.getElem_toArray, List.getElem_cons_zero, List.getElem_cons_succ, Act.put, List.setIfInBounds_toArray, List.set_cons_zero, List.set_cons_succ]
          refine wpAnyH_ready (rs := [9]) (by kernel_rfl) (by simp) (AllReadyH.cons rfl (fun K hK => ?_) AllReadyH.nil)
          go_simp
          refine (height_any _ HHd.out).mono ?_
          rintro e W1 ⟨rfl, hb⟩
          refine hK.out _ _ (hHeld.keep hb) (fun hHeld => ?_)
          clear hK K
          clear hb
          try simp only [List.getElem_toArray, List.getElem_cons_zero, List.getElem_cons_succ, Act.put, List.setIfInBounds_toArray, List.set_cons_zero, List.set_cons_succ]
          refine wpAnyH_take (i := 10) (v := .float .f64 f) rfl (by kernel_rfl) (by kernel_rfl) (by kernel_rfl) (fun _ _ _ h => h) (Or.inl ⟨by rfl, ?y54⟩) (by assumption) ?r54
          case y54 =>
            intro w1 hSw
            go_simp
            try with_reducible rfl
          try simp only [List.getElem_toArray, List.getElem_cons_zero, List.getElem_cons_succ, Act.put, List.setIfInBounds_toArray, List.set_cons_zero, List.set_cons_succ]
          refine wpAnyH_take (i := 11) (v := .float .f64 f) rfl (by kernel_rfl) (by kernel_rfl) (by kernel_rfl) (fun _ _ _ h => h) (Or.inl ⟨by rfl, ?y55⟩) (by assumption) ?r55
          case y55 =>
            intro w1 hSw
            go_simp
            try with_reducible rfl
          try simp only [List.getElem_toArray, List.getElem_cons_zero, List.getElem_cons_succ, Act.put, List.setIfInBounds_toArray, List.set_cons_zero, List.set_cons_succ]
          refine wpAnyH_done (by kernel_rfl) ?_ _
          refine NoPanic.normal ?_
          have HW1 := Lib.hid hHeld.1
          go_wp2_with (first | (go_at_call 115; refine (E4.out _).mono ?_; rintro e w' ⟨rfl, rfl⟩) | (at_builtin; refine wpList_append_own _ rfl (.tmp 68) (.tmp 70) 59 rfl wc.heap.size 22 i0 (.float .f64 0) 1 8 Try.underlying59 hi hz0 hz1 hz2 rfl (by decide) _ (k + 1) _ rfl ((own_keep HO.out HW1.out).alloc _) ⟨W1.heap.size, 0, none⟩ 1 1 [.float .f64 f] rfl rfl (new_at _ _ rfl _ _) (fun u hu => by simp at hu; subst hu; rfl) (by unfold maxLen; omega) (by omega) (by have := HSB.out.size; have := HW1.out.size; simp; omega) ?_; intro v' w' ho' hg' _; have hst := row_step HSB.out HO.out EF.out ho' (bel_alloc _ HW1.out) hg'; have cd3 := (HSC.out.keep hst.1).2.2.1.1; have cd4 := (HSC.out.keep hst.1).2.2.1.2.1; have HST := Lib.hid hst; clear ho' hg' hst))
          refine bodyPost_ret (v := .tuple #[u10, u6]) (by simp [results, Try.results112, go_sem]) rfl ?_
          exact ⟨_, _, rfl, HV6.out.1.trans ((HSB.out.trans (HW1.out.mono HSB.out.size)).mono HV6.out.1.size), own_keep HV6.out.2 (HSB.out.trans (HW1.out.mono HSB.out.size)), World.ownsRow.mono (own_keep HO.out HW1.out) HV6.out.1.size⟩
        · skip
          go_wp2_with fail
          refine wp_region_noPanic ?_
          refine wp_region_held_drew (S := CutS wr g d x1 y1 x2 y2 P Q) (by kernel_rfl) ?_ (fun hHeld => ?_)
          · exact hC.keep (Below.refl _ _).drew
          refine wpAnyH_take (i := 0) (v := .float .f64 a0) rfl (by kernel_rfl) (by kernel_rfl) (by kernel_rfl) (fun _ _ _ h => h) (Or.inl ⟨by rfl, ?y56⟩) (by assumption) ?r56
          case y56 =>
            intro w1 hSw
            go_simp
            try with_reducible rfl
          try simp only [List.getElem_toArray, List.getElem_cons_zero, List.getElem_cons_succ, Act.put, List.setIfInBounds_toArray, List.set_cons_zero, List.set_cons_succ]
          refine wpAnyH_take (i := 1) (v := ptrV d) rfl (by kernel_rfl) (by kernel_rfl) (by kernel_rfl) (fun _ _ _ h => h) (Or.inl ⟨by rfl, ?y57⟩) (by assumption) ?r57
          case y57 =>
            intro w1 hSw
            go_simp
            try with_reducible rfl
          try simp only [List.getElem_toArray, List.getElem_cons_zero, List.getElem_cons_succ, Act.put, List.setIfInBounds_toArray, List.set_cons_zero, List.set_cons_succ]
          refine wpAnyH_take (i := 2) (v := ptrV d) rfl (by kernel_rfl) (by kernel_rfl) (by kernel_rfl) (fun _ _ _ h => h) (Or.inl ⟨by rfl, ?y58⟩) (by assumption) ?r58
          case y58 =>
            intro w1 hSw
            go_simp
            try with_reducible rfl
          try simp only [List.getElem_toArray, List.getElem_cons_zero, List.getElem_cons_succ, Act.put, List.setIfInBounds_toArray, List.set_cons_zero, List.set_cons_succ]
          refine wpAnyH_take (i := 3) (v := .pointer (some ⟨d, 1, none⟩)) rfl (by kernel_rfl) (by kernel_rfl) (by kernel_rfl) (fun _ _ _ h => h) (Or.inl ⟨by rfl, ?y59⟩) (by assumption) ?r59
          case y59 =>
            intro w1 hSw
            go_simp
            try with_reducible rfl
          try simp only [List.getElem_toArray, List.getElem_cons_zero, List.getElem_cons_succ, Act.put, List.setIfInBounds_toArray, List.set_cons_zero, List.set_cons_succ]
          refine wpAnyH_take (i := 4) (v := .float .f64 Q) rfl (by kernel_rfl) (by kernel_rfl) (by kernel_rfl) (fun _ _ _ h => h) (Or.inl ⟨by rfl, ?y60⟩) (by assumption) ?r60
          case y60 =>
            intro w1 hSw
            have c0 := hSw.2.2.1.1
            have c1 := hSw.2.2.1.2.1
            go_simp
            try with_reducible rfl
          try simp only [List.getElem_toArray, List.getElem_cons_zero, List.getElem_cons_succ, Act.put, List.setIfInBounds_toArray, List.set_cons_zero, List.set_cons_succ]
          refine wpAnyH_take (i := 5) (v := .float .f64 a1) rfl (by kernel_rfl) (by kernel_rfl) (by kernel_rfl) (fun _ _ _ h => h) (Or.inl ⟨by rfl, ?y61⟩) (by assumption) ?r61
          case y61 =>
            intro w1 hSw
            go_simp
            try with_reducible rfl
          try simp only [List.getElem_toArray, List.getElem_cons_zero, List.getElem_cons_succ, Act.put, List.setIfInBounds_toArray, List.set_cons_zero, List.set_cons_succ]
          refine wpAnyH_take (i := 6) (v := ptrV g) rfl (by kernel_rfl) (by kernel_rfl) (by kernel_rfl) (fun _ _ _ h => h) (Or.inl ⟨by rfl, ?y62⟩) (by assumption) ?r62
          case y62 =>
            intro w1 hSw
            go_simp
            try with_reducible rfl
          try simp only [List.getElem_toArray, List.getElem_cons_zero, List.getElem_cons_succ, Act.put, List.setIfInBounds_toArray, List.set_cons_zero, List.set_cons_succ]
          refine wpAnyH_take (i := 7) (v := ptrV g) rfl (by kernel_rfl) (by kernel_rfl) (by kernel_rfl) (fun _ _ _ h => h) (Or.inl ⟨by rfl, ?y63⟩) (by assumption) ?r63
          case y63 =>
            intro w1 hSw
            go_simp
            try with_reducible rfl
          try simp only [List.getElem_toArray, List.getElem_cons_zero, List.getElem_cons_succ, Act.put, List.setIfInBounds_toArray, List.set_cons_zero, List.set_cons_succ]
          refine wpAnyH_take (i := 8) (v := .agg #[.float .f64 x1, .float .f64 y1, .float .f64 x2, .float .f64 y2]) rfl (by kernel_rfl) (by kernel_rfl) (by kernel_rfl) (fun _ _ _ h => h) (Or.inl ⟨by rfl, ?y64⟩) (by assumption) ?r64
          case y64 =>
            intro w1 hSw
            obtain ⟨_, k0, k1, k2, k3⟩ := hSw.2.1
            go_simp
            try with_reducible rfl
          try simp only [List.getElem_toArray, List.getElem_cons_zero, List.getElem_cons_succ, Act.put, List.setIfInBounds_toArray, List.set_cons_zero, List.set_cons_succ]
          refine wpAnyH_ready (rs := [9]) (by kernel_rfl) (by simp) (AllReadyH.cons rfl (fun K hK => ?_) AllReadyH.nil)
          go_simp
          refine (height_any _ HHd.out).mono ?_
          rintro e W1 ⟨rfl, hb⟩
          refine hK.out _ _ (hHeld.keep hb) (fun hHeld => ?_)
          clear hK K
          clear hb
          try simp only [List.getElem_toArray, List.getElem_cons_zero, List.getElem_cons_succ, Act.put, List.setIfInBounds_toArray, List.set_cons_zero, List.set_cons_succ]
          refine wpAnyH_take (i := 10) (v := .float .f64 f) rfl (by kernel_rfl) (by kernel_rfl) (by kernel_rfl) (fun _ _ _ h => h) (Or.inl ⟨by rfl, ?y65⟩) (by assumption) ?r65
          case y65 =>
            intro w1 hSw
            go_simp
            try with_reducible rfl
          try simp only [List.getElem_toArray, List.getElem_cons_zero, List.getElem_cons_succ, Act.put, List.setIfInBounds_toArray, List.set_cons_zero, List.set_cons_succ]
          refine wpAnyH_take (i := 11) (v := .float .f64 f) rfl (by kernel_rfl) (by kernel_rfl) (by kernel_rfl) (fun _ _ _ h => h) (Or.inl ⟨by rfl, ?y66⟩) (by assumption) ?r66
          case y66 =>
            intro w1 hSw
            go_simp
            try with_reducible rfl
          try simp only [List.getElem_toArray, List.getElem_cons_zero, List.getElem_cons_succ, Act.put, List.setIfInBounds_toArray, List.set_cons_zero, List.set_cons_succ]
          refine wpAnyH_done (by kernel_rfl) ?_ _
          refine NoPanic.normal ?_
          have HW1 := Lib.hid hHeld.1
          go_wp2_with (first | (go_at_call 115; refine (E4.out _).mono ?_; rintro e w' ⟨rfl, rfl⟩) | (at_builtin; refine wpList_append_own _ rfl (.tmp 68) (.tmp 70) 59 rfl wc.heap.size 22 i0 (.float .f64 0) 1 8 Try.underlying59 hi hz0 hz1 hz2 rfl (by decide) _ (k + 1) _ rfl ((own_keep HO.out HW1.out).alloc _) ⟨W1.heap.size, 0, none⟩ 1 1 [.float .f64 f] rfl rfl (new_at _ _ rfl _ _) (fun u hu => by simp at hu; subst hu; rfl) (by unfold maxLen; omega) (by omega) (by have := HSB.out.size; have := HW1.out.size; simp; omega) ?_; intro v' w' ho' hg' _; have hst := row_step HSB.out HO.out EF.out ho' (bel_alloc _ HW1.out) hg'; have cd3 := (HSC.out.keep hst.1).2.2.1.1; have cd4 := (HSC.out.keep hst.1).2.2.1.2.1; have HST := Lib.hid hst; clear ho' hg' hst))
          refine bodyPost_ret (v := .tuple #[v', u6]) (by simp [results, Try.results112, go_sem]) rfl ?_
          exact ⟨_, _, rfl, HV6.out.1.trans (HST.out.1.mono HV6.out.1.size), own_keep HV6.out.2 HST.out.1, World.ownsRow.mono HST.out.2 HV6.out.1.size⟩
end Go.Proofs.Ytooghncdhjdcpaa
