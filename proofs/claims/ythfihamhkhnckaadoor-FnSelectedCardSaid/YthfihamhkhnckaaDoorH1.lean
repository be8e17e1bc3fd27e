/-
The law FnSelected: impl.Selected joined; pick; the law's own function walked. Condition: a list of texts that lies in memory.
-/
import Derived.Test.YthfihamhkhnckaaDoorG8
import Derived.Test.YthfihamhkhnckaaDoorG9
import Derived.Test.YthfihamhkhnckaaDoorG6
namespace Go.Proofs.YthfihamhkhnckaaDoor.Sel
open Go.Maps Go.RowKit Go.ChangeShapes Go.Proofs.YthfihamhkhnckaaDoorW.PrintWords Go.Proofs.YthfihamhkhnckaaDoor.PFnCollected

/-- What the parts say, or all pages, or none. -/
def useL (n : Nat) (x : Bool) (ts : List (List UInt8)) (M : Nat → St) : St := if ts.length = 0 then (if x then procN false n 1 St.new else St.new) else M ts.length
theorem inside_new (n : Nat) : Inside n St.new := fun p hp => by simp [St.new] at hp
theorem inside_all (n : Nat) : Inside n (procN false n 1 St.new) := (inside_new n).procN false n 1 (by omega) (fun j hj => by omega)
theorem selected_impl (n : Nat) (hn : n ≤ 1000) (x : Bool) (ts : List (List UInt8)) (hts : ts.length ≤ 100) (M : Nat → St) (hE : Run n ts M) (hI : Inside n (M ts.length)) (A : Option Addr) (cap : Nat) (hcap : ts.length ≤ cap) (w : World)
    (hr : Kd.C Kd.string w A ts.length (ts.map bs)) :
    Calls Tryd.prog 11 #[.int .i64 (n : Int), .slice A ts.length cap, .bool x] w fun e w' => ∃ v, e = .returned (.tuple #[v, .bool true]) ∧ w'.ownsRow w.heap.size 3 1 v (selL n (useL n x ts M).f).length (nums .i64 (selL n (useL n x ts M).f)) ∧ Below w.heap.size w w' := by
  have hsm := hE.small ts.length (Nat.le_refl _)
  refine implSelected n hn (useL n x ts M) ?_ ?_ x ts hts A cap hcap w hr (fun W hW => ?_)
  · unfold useL
    split
    · split
      · rw [all_n]; omega
      · simp [St.new]
    · omega
  · unfold useL
    split
    · split
      · exact inside_all n
      · exact inside_new n
    · exact hI
  · by_cases h0 : ts.length = 0
    · rw [h0, useL, if_pos h0]
      cases x
      · refine (pages_none n A cap W).mono ?_
        rintro e w' ⟨rfl, rfl⟩
        exact ⟨none, rfl, .inl ⟨rfl, rfl⟩, Below.refl _ _⟩
      · refine (pages_all n hn A cap W).mono ?_
        rintro e w' ⟨rfl, hC, hB⟩
        exact ⟨_, rfl, .inr ⟨_, rfl, hC⟩, hB⟩
    · rw [useL, if_neg h0]
      refine (pages_some n M ts hts (by omega) hE A cap x W (toks_of (Kd.C_below hr hW))).mono ?_
      rintro e w' ⟨m, rfl, ⟨rfl, hC⟩, hB⟩
      exact ⟨_, rfl, .inr ⟨_, rfl, hC⟩, hB⟩
/-- A list of one text, laid anew. -/
theorem one_text (w : World) (s : List UInt8) : Kd.C Kd.string (w.alloc (.cells #[.string (bs s)] 9)) (some ⟨w.heap.size, 0, none⟩) 1 [bs s] := by
  refine ⟨rfl, by decide, fun _ => ⟨_, rfl, fun j p hj => ⟨[.string p], rfl, rfl, fun i u hu => ?_⟩⟩⟩
  have h1 := blk_cell (blk_new w (.cells #[.string (bs s)] 9)) 0
  cases i with
  | succ i => simp at hu
  | zero =>
    cases j with
    | succ j => simp at hj
    | zero =>
      have hp : bs s = p := by simpa using hj
      have hu' : u = .string p := by simpa using hu.symm
      rw [hu', ← hp]
      exact h1
theorem num_two : Num [50] := ⟨by decide, by decide, fun c hc => by rw [List.mem_singleton.1 hc]; exact ⟨by decide, by decide⟩, by decide⟩
set_option maxRecDepth 100000 in
theorem pick_calls (w : World) : Calls Tryd.prog 12 #[] w fun e w' => e = .returned (.bool true) ∧ Below w.heap.size w w' := by
  have hE : Eff 3 [50] (procN false 1 2) := (normPage 3 (by decide) [50] num_two).eff
  have hR : Run 3 [[50]] (fun i => if i = 0 then St.new else procN false 1 2 St.new) := ⟨rfl, fun i h => by
    have hi : i = 0 := by simp at h; omega
    subst hi
    exact ⟨_, hE, rfl⟩⟩
  have hI : Inside 3 (procN false 1 2 St.new) := (inside_new 3).procN false 1 2 (by decide) (fun j hj => by omega)
  have HI := Lib.hid (selected_impl 3 (by decide) false [[50]] (by decide) _ hR hI (some ⟨w.heap.size, 0, none⟩) 1 (by decide) (w.alloc (.cells #[.string (bs [50])] 9)) (one_text w [50]))
  have hsel : selL 3 (useL 3 false [[50]] (fun i => if i = 0 then St.new else procN false 1 2 St.new)).f = [2] := by decide
  rw [hsel] at HI
  clear hE hR hI hsel
  have HB := Lib.hid (below_alloc (Below.refl _ w) (.cells #[.string (bs [50])] 9))
  go_enter Tryd.func12, Tryd.ntmps12
  go_wp2_with (go_at_call 11; refine HI.out.mono ?_; rintro e w2 ⟨v, rfl, ho, hB⟩; obtain ⟨g, cap, rfl, _, _⟩ := ho.form (by decide); obtain ⟨k0, _⟩ := own_at ho 0 (by decide) (by decide); have k1 : w2.cell? ⟨g, 0, none⟩ = some (.int .i64 2) := k0; have HB2 := Lib.hid (below_step HB.out hB); clear ho hB k0)
  go_ret
  exact ⟨rfl, HB2.out⟩
theorem selL_new (n : Nat) : selL n St.new.f = [] := by
  unfold selL
  rw [List.filter_eq_nil_iff]
  intro a _
  simp [St.new]
/-- The one part -l: all pages. -/
theorem spec_all (n : Nat) (hn : n ≤ 1000) (h1 : 1 ≤ n) (W : World) :
    Calls Tryd.prog 10 #[.int .i64 (n : Int), .slice (some ⟨W.heap.size, 0, none⟩) 1 1] (W.alloc (.cells #[.string (bs [45, 108])] 9)) fun e w' => ∃ v, e = .returned (.tuple #[v, .bool true]) ∧
      w'.ownsRow (W.alloc (.cells #[.string (bs [45, 108])] 9)).heap.size 3 1 v (selL n (procN false n 1 St.new).f).length (nums .i64 (selL n (procN false n 1 St.new).f)) ∧ Below (W.alloc (.cells #[.string (bs [45, 108])] 9)).heap.size (W.alloc (.cells #[.string (bs [45, 108])] 9)) w' := by
  refine (spec_selected n hn [[45, 108]] (by decide) (fun t ht => by rw [List.mem_singleton.1 ht]; decide) (some ⟨W.heap.size, 0, none⟩) 1 _ (toks_of (ts := [[45, 108]]) (one_text W [45, 108]))).mono ?_
  rintro e w' ⟨v, ok, S, rfl, ho, hM, hok, hB⟩
  obtain rfl := hok h1 (fun t ht => List.mem_singleton.1 ht)
  obtain ⟨M, hR, hI, hX, rfl⟩ := hM rfl
  have hX1 : ∀ p, (M 1).f p = if (1 : Nat) = 0 then none else if 1 ≤ p ∧ p ≤ (n : Int) then some true else none := hX (fun t ht => List.mem_singleton.1 ht)
  have hf : (M 1).f = (procN false n 1 St.new).f := funext fun p => by
    rw [hX1, procN_all, if_neg (by decide)]
    rfl
  have ho1 : w'.ownsRow (W.alloc (.cells #[.string (bs [45, 108])] 9)).heap.size 3 1 v (selL n (M 1).f).length (nums .i64 (selL n (M 1).f)) := ho
  rw [hf] at ho1
  exact ⟨v, rfl, ho1, hB⟩
set_option maxHeartbeats 8000000 in
set_option maxRecDepth 100000 in
theorem law_calls (x : Int) (A : Option Addr) (l : List ByteArray) (c : Nat) (all : Bool) (w : World) (hx : (Lit.int .i64 x).wf = true) (hc : l.length ≤ c) (hn : l.length ≤ 140737488351232) (hC : Kd.C Kd.string w A l.length l) :
    Calls Tryd.prog 4 #[.int .i64 x, .slice A l.length c, .bool all] w fun e w' => e = .returned (.bool true) ∧ Below w.heap.size w w' := by
  obtain ⟨b, kf, hkf, hsz⟩ := fits_ef l hn
  have HF := Lib.hid (laws_zzFits1.calls kf A c l b w hC hc hkf)
  clear hkf
  cases b with
  | false =>
    go_enter Tryd.func4, Tryd.ntmps4
    go_wp2_with (go_at_call 6; refine HF.out.mono ?_; rintro e w1 ⟨rfl, hd⟩; have HB := Lib.hid hd.below)
    go_ret
    exact ⟨rfl, HB.out⟩
  | true =>
    by_cases h1 : x < 1
    · have z1 : decide (x < 1) = true := decide_eq_true h1
      go_enter Tryd.func4, Tryd.ntmps4
      go_wp2_with (go_at_call 6; refine HF.out.mono ?_; rintro e w1 ⟨rfl, hd⟩; have HB := Lib.hid hd.below)
      go_ret
      exact ⟨rfl, HB.out⟩
    have z1 : decide (x < 1) = false := decide_eq_false h1
    by_cases h2 : 500 < x
    · have z2 : decide (500 < x) = true := decide_eq_true h2
      go_enter Tryd.func4, Tryd.ntmps4
      go_wp2_with (go_at_call 6; refine HF.out.mono ?_; rintro e w1 ⟨rfl, hd⟩; have HB := Lib.hid hd.below)
      go_ret
      exact ⟨rfl, HB.out⟩
    have z2 : decide (500 < x) = false := decide_eq_false h2
    by_cases h3 : 30 < l.length
    · have z3 : decide (30 < (l.length : Int)) = true := decide_eq_true (by omega)
      have z3' : decide (30 < l.length) = true := decide_eq_true h3
      go_enter Tryd.func4, Tryd.ntmps4
      go_wp2_with (go_at_call 6; refine HF.out.mono ?_; rintro e w1 ⟨rfl, hd⟩; have HB := Lib.hid hd.below)
      go_ret
      exact ⟨rfl, HB.out⟩
    have z3 : decide (30 < (l.length : Int)) = false := decide_eq_false (by omega)
    have z3' : decide (30 < l.length) = false := decide_eq_false h3
    obtain ⟨n, rfl⟩ : ∃ n : Nat, x = (n : Int) := ⟨x.toNat, by omega⟩
    have hn5 : n ≤ 1000 := by omega
    have hn1 : 1 ≤ n := by omega
    obtain ⟨ts, rfl⟩ : ∃ ts : List (List UInt8), l = ts.map bs := ⟨_, (texts_of l).symm⟩
    rw [List.length_map] at *
    have hlen : ∀ t ∈ ts, t.length ≤ 2147483647 := fun t ht => by
      obtain ⟨i, hi, rfl⟩ := List.getElem_of_mem ht
      have := hsz rfl i (by simpa using hi)
      rw [List.getElem_map, bs_size] at this
      exact this
    have HS := Lib.hid (fun W (hB : Below w.heap.size w W) => spec_selected n hn5 ts (by omega) hlen A c W (toks_of (Kd.C_below hC hB)))
    have HI := Lib.hid (fun W (hB : Below w.heap.size w W) M (hR : Run n ts M) (hI : Inside n (M ts.length)) => selected_impl n hn5 all ts (by omega) M hR hI A c hc W (Kd.C_below hC hB))
    have HPick := Lib.hid pick_calls
    clear hC hlen hsz
    go_enter Tryd.func4, Tryd.ntmps4
    go_upto_region 6 with (first
      | (go_at_call 6; refine HF.out.mono ?_; rintro e w1 ⟨rfl, hd⟩; have HB := Lib.hid hd.below; clear hd)
      | (go_at_call 10; refine (HS.out _ HB.out).mono ?_; rintro e w2 ⟨v, ok, L, rfl, ho, hM, _, hB2⟩; have HB2 := Lib.hid (below_step HB.out hB2); have HO := Lib.hid ho; have HM := Lib.hid hM; obtain ⟨A2, cv, rfl⟩ := own_slice ho; clear ho hM hB2 HB))
    cases ok with
    | false =>
      go_wp2_with fail
      go_ret
      exact ⟨rfl, HB2.out⟩
    | true =>
      obtain ⟨M, hR, hI, hX, hS⟩ := HM.out rfl
      have HJ := Lib.hid (HI.out w2 HB2.out M hR hI)
      by_cases h0 : ts.length = 0
      · have z6 : decide (0 < (ts.length : Int)) = false := decide_eq_false (by omega)
        have z6' : decide (0 < ts.length) = false := decide_eq_false (by omega)
        have z7 : ((ts.length : Int) == 0) = true := beq_iff_eq.2 (by omega)
        clear hS hX HM HI hR hI HS HF
        cases all with
        | false =>
          have hL : useL n false ts M = St.new := by rw [useL, if_pos h0]; rfl
          rw [hL, selL_new] at HJ
          clear h0 hL
          go_wp2_with (first
            | (go_at_call 11; refine HJ.out.mono ?_; rintro e w3 ⟨v3, rfl, ho3, hB3⟩; have HB3 := Lib.hid (below_step HB2.out hB3); have HO3 := Lib.hid ho3; obtain ⟨A3, cv3, rfl⟩ := own_slice ho3; clear ho3 hB3; have HQ := Lib.hid (sameInts_calls (l := []) (n := 0) (by decide) rfl w3 HO3.out (own_nil w3 w.heap.size _ _)))
            | (go_at_call 9; refine HQ.out.mono ?_; rintro e w4 ⟨rfl, hB4⟩; have HB4 := Lib.hid (below_step HB3.out hB4); clear hB4)
            | (go_at_call 12; refine (HPick.out _).mono ?_; rintro e w5 ⟨rfl, hB5⟩; have HB5 := Lib.hid (below_step HB4.out hB5); clear hB5))
          go_ret
          exact ⟨rfl, HB5.out⟩
        | true =>
          have hL : useL n true ts M = procN false n 1 St.new := by rw [useL, if_pos h0]; rfl
          rw [hL] at HJ
          clear h0 hL
          have HS2 := Lib.hid (spec_all n hn5 hn1)
          have hml : (selL n (procN false n 1 St.new).f).length ≤ 1000000 := by have := selL_length n (procN false n 1 St.new).f; omega
          generalize selL n (procN false n 1 St.new).f = G at *
          go_wp2_with (first
            | (go_at_call 11; refine HJ.out.mono ?_; rintro e w3 ⟨v3, rfl, ho3, hB3⟩; have HB3 := Lib.hid (below_step HB2.out hB3); have HO3 := Lib.hid ho3; obtain ⟨A3, cv3, rfl⟩ := own_slice ho3; clear ho3 hB3)
            | (go_at_call 10; refine (HS2.out w3).mono ?_; rintro e w6 ⟨v6, rfl, ho6, hB6⟩; have HB6 := Lib.hid (below_step (below_alloc HB3.out _) hB6); have HO6 := Lib.hid ho6; have HO7 := Lib.hid (pw_own_below (own_alloc HO3.out _) hB6); obtain ⟨A6, cv6, rfl⟩ := own_slice ho6; clear ho6 hB6; have HQ := Lib.hid (sameInts_calls hml rfl w6 HO7.out HO6.out))
            | (go_at_call 9; refine HQ.out.mono ?_; rintro e w4 ⟨rfl, hB4⟩; have HB4 := Lib.hid (below_step HB6.out hB4); clear hB4)
            | (go_at_call 12; refine (HPick.out _).mono ?_; rintro e w5 ⟨rfl, hB5⟩; have HB5 := Lib.hid (below_step HB4.out hB5); clear hB5))
          go_ret
          exact ⟨rfl, HB5.out⟩
      · have hL : selL n (useL n all ts M).f = L := by rw [useL, if_neg h0, hS]
        rw [hL] at HJ
        have hml : L.length ≤ 1000000 := by rw [hS]; have := selL_length n (M ts.length).f; omega
        have z6 : decide (0 < (ts.length : Int)) = true := decide_eq_true (by omega)
        have z6' : decide (0 < ts.length) = true := decide_eq_true (by omega)
        have z7 : ((ts.length : Int) == 0) = false := beq_eq_false_iff_ne.2 (by omega)
        clear hS hX hL HM HI hR hI HS HF
        by_cases h4 : L.length = 0
        · have z4 : ((L.length : Int) == 0) = true := beq_iff_eq.2 (by omega)
          go_wp2_with fail
          go_ret
          exact ⟨rfl, HB2.out⟩
        have z4 : ((L.length : Int) == 0) = false := beq_eq_false_iff_ne.2 (by omega)
        go_wp2_with (first
          | (go_at_call 11; refine HJ.out.mono ?_; rintro e w3 ⟨v3, rfl, ho3, hB3⟩; have HB3 := Lib.hid (below_step HB2.out hB3); have HO3 := Lib.hid ho3; have HO2 := Lib.hid (pw_own_below HO.out hB3); obtain ⟨A3, cv3, rfl⟩ := own_slice ho3; clear ho3 hB3; have HQ := Lib.hid (sameInts_calls hml rfl w3 HO3.out HO2.out))
          | (go_at_call 9; refine HQ.out.mono ?_; rintro e w4 ⟨rfl, hB4⟩; have HB4 := Lib.hid (below_step HB3.out hB4); clear hB4)
          | (go_at_call 12; refine (HPick.out _).mono ?_; rintro e w5 ⟨rfl, hB5⟩; have HB5 := Lib.hid (below_step HB4.out hB5); clear hB5))
        go_ret
        exact ⟨rfl, HB5.out⟩
end Go.Proofs.YthfihamhkhnckaaDoor.Sel
