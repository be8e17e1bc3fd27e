/-
The law FnRemaining: impl.Remaining joined; the law's own function walked. Condition: a list of texts that lies in memory.
-/
import Derived.Test.YthfihamhkhnckaaDoorG8
import Derived.Test.YthfihamhkhnckaaDoorG9
import Derived.Test.YthfihamhkhnckaaDoorG6
namespace Go.Proofs.YthfihamhkhnckaaDoor.Sel
open Go.Maps Go.RowKit Go.ChangeShapes Go.Proofs.YthfihamhkhnckaaDoorW.PrintWords Go.Proofs.YthfihamhkhnckaaDoor.PFnCollected

theorem remaining_impl (n : Nat) (hn : n ≤ 1000) (ts : List (List UInt8)) (hts : ts.length ≤ 100) (M : Nat → St) (hE : Run n ts M) (hI : Inside n (M ts.length)) (A : Option Addr) (cap : Nat) (hcap : ts.length ≤ cap) (w : World)
    (hr : Kd.C Kd.string w A ts.length (ts.map bs)) :
    Calls Tryd.prog 13 #[.int .i64 (n : Int), .slice A ts.length cap] w fun e w' => ∃ v, e = .returned (.tuple #[v, .bool true]) ∧ w'.ownsRow w.heap.size 3 1 v (selL n (remS n (M ts.length)).f).length (nums .i64 (selL n (remS n (M ts.length)).f)) ∧ Below w.heap.size w w' := by
  have hsm := hE.small ts.length (Nat.le_refl _)
  refine implRemaining n hn (remS n (M ts.length)) (by show n + (M ts.length).n ≤ 200000; omega) (fun p hp => ?_) ts hts A cap hcap w hr (fun W hW => remaining_calls n hn M ts hts hE A cap W (toks_of (Kd.C_below hr hW)))
  by_cases h1 : (M ts.length).f p = some true
  · exact hI p (by rw [h1]; rfl)
  · by_cases h2 : 1 ≤ p ∧ p ≤ n
    · exact h2
    · exact absurd hp (by simp [remS, h1, h2])
set_option maxRecDepth 100000 in
/-- A page's word looked up. -/
theorem lookb (w : World) {ops : Array Oper} {rest : List Oper} {o : Oper} {a : Act} {Q : Exit → Act → World → Prop} {T : TypeId} (hT : Tryd.prog.underlying T = some (.map 3 4)) (hg : o.guard = none) (m x : Operand) (hop : o.op = Op.lookup T m x false) {B c : Nat} {l : St} (hC : Cp B c l w) (p : Int) (hp : (Lit.int .i64 p).wf = true)
    (hm : a.eval m = .map (some c)) (hx : a.eval x = .int .i64 p) (hK : wpList Tryd.prog ops Q rest (a.put o.dst (.bool ((l.f p).getD false))) w) :
    wpList Tryd.prog ops Q (o :: rest) a w := by
  obtain ⟨hc, D, ho, hr⟩ := hC
  refine wpList_plain hg fun K' hK' => ?_
  obtain ⟨v, ps, hrun, hv⟩ := ho.lookup keyed hT (zeroE w) (plainElem_bool Tryd.underlying4 false) (keyOf_int_mk Tryd.underlying3 hp)
  obtain ⟨b, rfl, hb⟩ := pe_inv hv
  have h1 := congrArg Prod.fst hb
  have hbb : b = (l.f p).getD false := by
    cases hf : l.f p with
    | none =>
      have h2 := hr.has p
      rw [hf] at h2
      have h3 : D.atKey (.int .i64 p) (.lit (.bool false)) = .lit (.bool false) := atKey_of_not_has h2 _
      rw [h3] at h1
      injection h1 with h1; injection h1 with h1; exact h1.symm
    | some d =>
      have h3 := hr.at_ p d hf (.lit (.bool false))
      rw [h3] at h1
      injection h1 with h1; injection h1 with h1; exact h1.symm
  unfold Oper.wp
  simp [execOp, hop, hm, hx, hrun, Result.andThen]
  rw [hbb]
  exact hK' _ _ hK
/-- What is gone: the pages of a list's beginning. -/
def goneF (S : List Int) (i : Nat) (p : Int) : Option Bool := if p ∈ S.take i then some true else none
/-- The pages wanted, up to page n. -/
def wantL (n : Nat) (S : List Int) : List Int := ((List.range n).map (fun i : Nat => (i : Int) + 1)).filter (fun p => !(decide (p ∈ S)))
theorem want_len (n : Nat) (S : List Int) : (wantL n S).length ≤ n := by
  unfold wantL
  refine Nat.le_trans (List.length_filter_le _ _) ?_
  simp
theorem rem_sel (n : Nat) (l : St) : selL n (remS n l).f = wantL n (selL n l.f) := by
  unfold wantL
  show ((List.range n).map (fun i : Nat => (i : Int) + 1)).filter (fun p => (remS n l).f p == some true) = _
  refine List.filter_congr (fun p hp => ?_)
  obtain ⟨i, hi, rfl⟩ := List.mem_map.1 hp
  have hin : 1 ≤ ((i : Int) + 1) ∧ ((i : Int) + 1) ≤ (n : Int) := by have := List.mem_range.1 hi; omega
  have hr : (remS n l).f ((i : Int) + 1) = if l.f ((i : Int) + 1) = some true then some false else if 1 ≤ ((i : Int) + 1) ∧ ((i : Int) + 1) ≤ (n : Int) then some true else none := rfl
  rw [hr]
  by_cases h : l.f ((i : Int) + 1) = some true
  · rw [if_pos h, decide_eq_true (mem_selL.2 ⟨hin, h⟩)]
    rfl
  · rw [if_neg h, if_pos hin, decide_eq_false (fun hm => h (mem_selL.1 hm).2)]
    rfl
theorem want_succ (n : Nat) (S : List Int) : wantL (n + 1) S = wantL n S ++ (if ((n : Int) + 1) ∈ S then [] else [(n : Int) + 1]) := by
  unfold wantL
  rw [List.range_succ, List.map_append, List.filter_append]
  congr 1
  by_cases h : ((n : Int) + 1) ∈ S
  · simp [h]
  · simp [h]
set_option maxHeartbeats 8000000 in
set_option maxRecDepth 100000 in
theorem rem_calls (x : Int) (A : Option Addr) (l : List ByteArray) (c : Nat) (w : World) (hx : (Lit.int .i64 x).wf = true) (hc : l.length ≤ c) (hn : l.length ≤ 140737488351232) (hC : Kd.C Kd.string w A l.length l) :
    Calls Tryd.prog 5 #[.int .i64 x, .slice A l.length c] w fun e w' => e = .returned (.bool true) ∧ Below w.heap.size w w' := by
  obtain ⟨b, kf, hkf, hsz⟩ := fits_ef l hn
  have HF := Lib.hid (laws_zzFits1.calls kf A c l b w hC hc hkf)
  clear hkf
  cases b with
  | false =>
    go_enter Tryd.func5, Tryd.ntmps5
    go_wp2_with (go_at_call 6; refine HF.out.mono ?_; rintro e w1 ⟨rfl, hd⟩; have HB := Lib.hid hd.below)
    go_ret
    exact ⟨rfl, HB.out⟩
  | true =>
    by_cases h1 : x < 1
    · have z1 : decide (x < 1) = true := decide_eq_true h1
      go_enter Tryd.func5, Tryd.ntmps5
      go_wp2_with (go_at_call 6; refine HF.out.mono ?_; rintro e w1 ⟨rfl, hd⟩; have HB := Lib.hid hd.below)
      go_ret
      exact ⟨rfl, HB.out⟩
    have z1 : decide (x < 1) = false := decide_eq_false h1
    by_cases h2 : 500 < x
    · have z2 : decide (500 < x) = true := decide_eq_true h2
      go_enter Tryd.func5, Tryd.ntmps5
      go_wp2_with (go_at_call 6; refine HF.out.mono ?_; rintro e w1 ⟨rfl, hd⟩; have HB := Lib.hid hd.below)
      go_ret
      exact ⟨rfl, HB.out⟩
    have z2 : decide (500 < x) = false := decide_eq_false h2
    by_cases h3 : 30 < l.length
    · have z3 : decide (30 < (l.length : Int)) = true := decide_eq_true (by omega)
      have z3' : decide (30 < l.length) = true := decide_eq_true h3
      go_enter Tryd.func5, Tryd.ntmps5
      go_wp2_with (go_at_call 6; refine HF.out.mono ?_; rintro e w1 ⟨rfl, hd⟩; have HB := Lib.hid hd.below)
      go_ret
      exact ⟨rfl, HB.out⟩
    have z3 : decide (30 < (l.length : Int)) = false := decide_eq_false (by omega)
    have z3' : decide (30 < l.length) = false := decide_eq_false h3
    by_cases h30 : l.length = 0
    · have z30 : ((l.length : Int) == 0) = true := beq_iff_eq.2 (by omega)
      have z31 : (l.length == 0) = true := beq_iff_eq.2 h30
      clear h30
      go_enter Tryd.func5, Tryd.ntmps5
      go_wp2_with (go_at_call 6; refine HF.out.mono ?_; rintro e w1 ⟨rfl, hd⟩; have HB := Lib.hid hd.below)
      go_ret
      exact ⟨rfl, HB.out⟩
    have z30 : ((l.length : Int) == 0) = false := beq_eq_false_iff_ne.2 (by omega)
    have z31 : (l.length == 0) = false := beq_eq_false_iff_ne.2 h30
    obtain ⟨n, rfl⟩ : ∃ n : Nat, x = (n : Int) := ⟨x.toNat, by omega⟩
    have hn5 : n ≤ 1000 := by omega
    obtain ⟨ts, rfl⟩ : ∃ ts : List (List UInt8), l = ts.map bs := ⟨_, (texts_of l).symm⟩
    rw [List.length_map] at *
    have hlen : ∀ t ∈ ts, t.length ≤ 2147483647 := fun t ht => by
      obtain ⟨i, hi, rfl⟩ := List.getElem_of_mem ht
      have := hsz rfl i (by simpa using hi)
      rw [List.getElem_map, bs_size] at this
      exact this
    have HS := Lib.hid (fun W (hB : Below w.heap.size w W) => spec_selected n hn5 ts (by omega) hlen A c W (toks_of (Kd.C_below hC hB)))
    have HI := Lib.hid (fun W (hB : Below w.heap.size w W) M (hR : Run n ts M) (hI : Inside n (M ts.length)) => remaining_impl n hn5 ts (by omega) M hR hI A c hc W (Kd.C_below hC hB))
    have hmm := @run_makeMap Tryd.prog
    clear hC hlen hsz h30
    go_enter Tryd.func5, Tryd.ntmps5
    go_upto_region 6 with (first
      | (go_at_call 6; refine HF.out.mono ?_; rintro e w1 ⟨rfl, hd⟩; have HB := Lib.hid hd.below; clear hd)
      | (go_at_call 10; refine (HS.out _ HB.out).mono ?_; rintro e w2 ⟨v, ok, S, rfl, ho, hM, _, hB2⟩; have HB2 := Lib.hid (below_step HB.out hB2); have HO := Lib.hid ho; have HM := Lib.hid hM; obtain ⟨A2, cv, rfl⟩ := own_slice ho; clear ho hM hB2 HB))
    cases ok with
    | false =>
      go_wp2_with fail
      go_ret
      exact ⟨rfl, HB2.out⟩
    | true =>
      obtain ⟨M, hR, hI, hX, hS⟩ := HM.out rfl
      have hml : S.length ≤ n := by rw [hS]; exact selL_length n (M ts.length).f
      have HJ := Lib.hid (fun W (hW : Below w.heap.size w W) => HI.out W hW M hR hI)
      have hall : ∀ y ∈ S, 1 ≤ y ∧ y ≤ (n : Int) := fun y hy => by rw [hS] at hy; exact (mem_selL.1 hy).1
      have HS2 := Lib.hid (rem_sel n (M ts.length))
      rw [← hS] at HS2
      have HAll := Lib.hid hall
      clear hS hX HM HI hR hI HS HF hall
      generalize selL n (remS n (M ts.length)).f = G at *
      by_cases h4 : S.length = 0
      · have z4 : ((S.length : Int) == 0) = true := beq_iff_eq.2 (by omega)
        go_wp2_with fail
        go_ret
        exact ⟨rfl, HB2.out⟩
      have z4 : ((S.length : Int) == 0) = false := beq_eq_false_iff_ne.2 (by omega)
      by_cases h5 : S.length = n
      · have z5 : ((S.length : Int) == (n : Int)) = true := beq_iff_eq.2 (by omega)
        clear h5 h4
        go_wp2_with fail
        go_ret
        exact ⟨rfl, HB2.out⟩
      have z5 : ((S.length : Int) == (n : Int)) = false := beq_eq_false_iff_ne.2 (by omega)
      have z51 : (S.length == n) = false := beq_eq_false_iff_ne.2 h5
      have HC0 := Lib.hid (Cp.made w2 w2.heap.size (Nat.le_refl _))
      have HD0 := Lib.hid (below_alloc (Below.refl _ w2) (.map #[] 0))
      go_wp2_with fail
      go_loopw [55] (fun vi wr => ∃ i : Nat, vi = .int .i64 (i : Int) ∧ i ≤ S.length ∧ Hid (Cp w2.heap.size w2.heap.size ⟨i, goneF S i⟩ wr) ∧ Hid (Below w2.heap.size w2 wr)) (fun vi _ => S.length - (intOf vi).toNat)
      case atStart =>
        exact ⟨0, rfl, by omega, HC0, HD0⟩
      case round =>
        obtain ⟨i, rfl, hi, hC, hb⟩ := hrel
        have hsz := hb.out.size
        by_cases hin : i < S.length
        · have ho1 := pw_own_below HO.out hb.out
          obtain ⟨g2, cap2, hgA, _, _⟩ := ho1.form (by omega)
          cases hgA
          obtain ⟨ce, _⟩ := own_at ho1 (i : Int) (by omega) (by omega)
          rw [Int.toNat_natCast] at ce
          have hrd : rd S (i : Int) = S[i]'hin := by simp [rd, List.getD, List.getElem?_eq_getElem hin]
          rw [hrd] at ce
          have htk : S.take (i + 1) = S.take i ++ [S[i]'hin] := by rw [List.take_append_getElem]
          have hyb := HAll.out (S[i]'hin) (List.getElem_mem _)
          generalize S[i]'hin = y at ce htk hyb
          have HT := Lib.hid htk
          clear ho1 hrd htk
          go_wp2_with (at_mapUpdate; refine upd Tryd.underlying32 _ rfl (.tmp 59) (.tmp 60) (.const (.bool true)) rfl hC.out hsz (show i ≤ 2000000 by omega) y (WalkArith.wf_i64 (by omega)) false rfl rfl rfl ?_; intro w9 h1 h2)
          refine ⟨⟨i + 1, rfl, by omega, Lib.hid (h1.congr (Nat.le_refl _) (fun q => ?_)), Lib.hid (hb.out.trans h2)⟩, by simp [intOf]; omega⟩
          show (if q = y then some (!false) else goneF S i q) = goneF S (i + 1) q
          unfold goneF
          rw [HT.out]
          by_cases hqy : q = y
          · simp [hqy]
          · simp [hqy]
        · obtain rfl : i = S.length := by omega
          have hge : ¬ ((S.length : Int) < (S.length : Int)) := by omega
          go_wp2_with fail
          rename World => wf
          go_loopw [10, 11] (fun o vi wq => ∃ P : Nat, vi = .int .i64 (P : Int) ∧ 1 ≤ P ∧ P ≤ n + 1 ∧ Hid (wq.ownsRow (w2.heap.size + 1) 3 1 o (wantL (P - 1) S).length (nums .i64 (wantL (P - 1) S))) ∧ Hid (Cp w2.heap.size w2.heap.size ⟨S.length, goneF S S.length⟩ wq) ∧ Hid (Below (w2.heap.size + 1) wf wq)) (fun _ vi _ => n + 1 - (intOf vi).toNat)
          case atStart =>
            exact ⟨1, rfl, by omega, by omega, Lib.hid (own_nil _ _ _ _), hC, Lib.hid (Below.refl _ _)⟩
          case round =>
            obtain ⟨P, rfl, hP1, hPn, ho, hCq, hbq⟩ := hrel
            rename World => wq
            have hszq := hbq.out.size
            have hcl := hC.out.lt
            by_cases hle : P ≤ n
            · have z6 : decide (P ≤ n) = true := decide_eq_true hle
              have z7 : decide ((P : Int) ≤ (n : Int)) = true := decide_eq_true (by omega)
              have hst := want_succ (P - 1) S
              rw [show P - 1 + 1 = P by omega, show ((P - 1 : Nat) : Int) + 1 = (P : Int) by omega] at hst
              have hwl := want_len (P - 1) S
              have HST := Lib.hid hst
              clear hst
              by_cases hPS : (P : Int) ∈ S
              · have hgf : ((goneF S S.length (P : Int)).getD false) = true := by unfold goneF; rw [List.take_length, if_pos hPS]; rfl
                have hst2 : wantL P S = wantL (P - 1) S := by rw [HST.out, if_pos hPS, List.append_nil]
                go_wp2_with (at_lookup; refine lookb _ Tryd.underlying32 rfl (.tmp 67) (.tmp 68) rfl hCq.out (P : Int) (WalkArith.wf_i64 (by omega)) rfl rfl ?_; rw [hgf])
                exact ⟨⟨P + 1, rfl, by omega, by omega, by rw [Nat.add_sub_cancel, hst2]; exact ho, hCq, hbq⟩, by simp [intOf]; omega⟩
              · have hgf : ((goneF S S.length (P : Int)).getD false) = false := by unfold goneF; rw [List.take_length, if_neg hPS]; rfl
                have hst2 : wantL P S = wantL (P - 1) S ++ [(P : Int)] := by rw [HST.out, if_neg hPS]
                generalize wantL (P - 1) S = X at *
                go_wp2_with (first
                  | (at_lookup; refine lookb _ Tryd.underlying32 rfl (.tmp 67) (.tmp 68) rfl hCq.out (P : Int) (WalkArith.wf_i64 (by omega)) rfl rfl ?_; rw [hgf])
                  | (at_builtin; refine print_append_num (w2.heap.size + 1) rfl (.tmp 71) (.tmp 73) 24 3 .i64 8 rfl Tryd.underlying24 info_int (by decide) _ X (P : Int) rfl rfl ho.out hbq.out (by omega) (by omega) ?_; intro v1 w9 ho3 hb3 hg _
                     have HO3 := Lib.hid ho3
                     have HB3 := Lib.hid hb3
                     have HC3 := Lib.hid (hCq.out.keep (hg.block _ hCq.out.lt (row_ne_low ho.out (Nat.lt_succ_self _))))
                     clear ho3 hb3 hg))
                exact ⟨⟨P + 1, rfl, by omega, by omega, by rw [Nat.add_sub_cancel, hst2]; exact HO3, HC3, HB3⟩, by simp [intOf]; omega⟩
            · obtain rfl : P = n + 1 := by omega
              have z6 : decide (n + 1 ≤ n) = false := decide_eq_false hle
              have z7 : decide (((n + 1 : Nat) : Int) ≤ (n : Int)) = false := decide_eq_false (by omega)
              rw [Nat.add_sub_cancel, ← HS2.out] at ho
              have hGl : G.length ≤ 1000000 := by rw [HS2.out]; have := want_len n S; omega
              have HBq := Lib.hid (HB2.out.trans ((hb.out.trans (hbq.out.mono (Nat.le_succ _))).mono HB2.out.size))
              have HJ2 := Lib.hid (HJ.out wq HBq.out)
              obtain ⟨A5, cv5, rfl⟩ := own_slice ho.out
              clear HS2 HAll HJ
              go_wp2_with (first
                | (go_at_call 13; refine HJ2.out.mono ?_; rintro e w7 ⟨v7, rfl, ho7, hB7⟩; have HB7 := Lib.hid (below_step HBq.out hB7); have HO7 := Lib.hid ho7; have HO5 := Lib.hid (pw_own_below ho.out hB7); obtain ⟨A7, cv7, rfl⟩ := own_slice ho7; clear ho7 hB7; have HQ := Lib.hid (sameInts_calls hGl rfl w7 HO7.out HO5.out))
                | (go_at_call 9; refine HQ.out.mono ?_; rintro e w8 ⟨rfl, hB8⟩; have HB8 := Lib.hid (below_step HB7.out hB8); clear hB8))
              go_ret
              exact ⟨rfl, HB8.out⟩
end Go.Proofs.YthfihamhkhnckaaDoor.Sel
