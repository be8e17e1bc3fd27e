/-
The law FnCollected: the law's own function walked. Condition: a list of texts that lies in memory.
-/
import Derived.Test.YthfihamhkhnckaaDoorJ10
import Derived.Test.YthfihamhkhnckaaDoorK10
import Derived.Test.YthfihamhkhnckaaDoorK12
import Derived.Test.YthfihamhkhnckaaDoorPFnCollectedx5
namespace Go.Proofs.YthfihamhkhnckaaDoor
open Go.RowKit Go.ChangeShapes Go.Proofs.YthfihamhkhnckaaDoorW.PrintWords Go.Proofs.YthfihamhkhnckaaDoor.PFnCollected

theorem fits_e (l : List ByteArray) (hn : l.length ≤ 140737488351232) (d : Nat) : ∀ i, i + d = l.length → ∃ b, (b = true → ∀ j (h : j < l.length), i ≤ j → (l[j]'h).size ≤ 2147483647) ∧ ∀ k, d < k → laws_zzFits1.l0 k l (l.length : Int) (i : Int) = some b := by
  induction d with
  | zero =>
    intro i hi
    refine ⟨true, fun _ j h hj => by omega, fun k hk => ?_⟩
    obtain ⟨k, rfl⟩ : ∃ m, k = m + 1 := ⟨k - 1, by omega⟩
    simp only [laws_zzFits1.l0]
    rw [if_neg (by omega)]
  | succ d ih =>
    intro i hi
    obtain ⟨b, hs, hb⟩ := ih (i + 1) (by omega)
    have hrd : rdOf ByteArray.empty l (i : Int) = l[i]'(by omega) := by simp [rdOf, show i < l.length by omega]
    by_cases hs2 : ((rdOf ByteArray.empty l (i : Int)).size : Int) > 2147483647
    · refine ⟨false, (fun h => by cases h), fun k hk => ?_⟩
      obtain ⟨k, rfl⟩ : ∃ m, k = m + 1 := ⟨k - 1, by omega⟩
      simp only [laws_zzFits1.l0]
      rw [if_pos (by omega), if_pos (by omega), if_pos (by omega), if_pos hs2]
    · refine ⟨b, fun hb j h hj => ?_, fun k hk => ?_⟩
      · by_cases hji : j = i
        · subst hji
          rw [hrd] at hs2
          omega
        · exact hs hb j h (by omega)
      · obtain ⟨k, rfl⟩ : ∃ m, k = m + 1 := ⟨k - 1, by omega⟩
        simp only [laws_zzFits1.l0]
        rw [if_pos (by omega), if_pos (by omega), if_pos (by omega), if_neg hs2, show wrap64 ((i : Int) + 1) = ((i + 1 : Nat) : Int) by unfold wrap64; omega]
        exact hb k (by omega)
theorem fits_ef (l : List ByteArray) (hn : l.length ≤ 140737488351232) : ∃ b k, laws_zzFits1.f k l = some b ∧ (b = true → ∀ j (h : j < l.length), (l[j]'h).size ≤ 2147483647) := by
  unfold laws_zzFits1.f
  by_cases h : (l.length : Int) > 2147483647
  · exact ⟨false, 0, by rw [if_pos h], fun h => by cases h⟩
  · obtain ⟨b, hs, hb⟩ := fits_e l hn l.length 0 (by omega)
    exact ⟨b, l.length + 1, by rw [if_neg h]; exact hb _ (by omega), fun h j hj => hs h j hj (Nat.zero_le _)⟩
theorem same_e (l : List Int) (hn : l.length ≤ 140737488351232) (d : Nat) : ∀ i k, i + d = l.length → d < k → spec_SameInts.l0 k l l (l.length : Int) (i : Int) = some true := by
  induction d with
  | zero =>
    intro i k hi hk
    obtain ⟨k, rfl⟩ : ∃ m, k = m + 1 := ⟨k - 1, by omega⟩
    simp only [spec_SameInts.l0]
    rw [if_neg (by omega)]
  | succ d ih =>
    intro i k hi hk
    obtain ⟨k, rfl⟩ : ∃ m, k = m + 1 := ⟨k - 1, by omega⟩
    simp only [spec_SameInts.l0]
    rw [if_pos (by omega), if_pos (by omega), if_pos (by omega), if_pos (by omega), if_pos trivial, show wrap64 ((i : Int) + 1) = ((i + 1 : Nat) : Int) by unfold wrap64; omega]
    exact ih (i + 1) k (by omega) (by omega)
theorem same_ef (l : List Int) (hn : l.length ≤ 140737488351232) : spec_SameInts.f (l.length + 1) l l = some true := by
  unfold spec_SameInts.f
  rw [if_pos rfl]
  exact same_e l hn l.length 0 _ (by omega) (by omega)
/-- What is owned can be read. -/
theorem own_ints {w : World} {base n c : Nat} {A : Option Addr} {l : List Int} (h : w.ownsRow base 3 1 (.slice A n c) n (nums .i64 l)) (hl : l.length = n) (hn : n ≤ 1000000) : Kd.C (Kd.int .i64) w A l.length l ∧ l.length ≤ c := by
  have hc : l.length ≤ c := by
    rcases h.2 with ⟨h1, h2⟩ | ⟨g, cap, cur, he, _, _, hh, _⟩
    · cases h1; omega
    · cases he; omega
  refine ⟨⟨rfl, by omega, fun h0 => ?_⟩, hc⟩
  obtain ⟨g, cap, hA, _, _⟩ := h.form (by omega)
  cases hA
  refine ⟨_, rfl, fun j p hj => ⟨[.int .i64 p], rfl, rfl, fun i u hu => ?_⟩⟩
  cases i with
  | succ i => simp at hu
  | zero =>
    have hu' : u = .int .i64 p := by simpa using hu.symm
    have hjl := (List.getElem?_eq_some_iff.1 hj).1
    have e : ((⟨g, 0, none⟩ : Addr).add (j * (Kd.int .i64).sz + 0)) = ⟨g, j, none⟩ := by
      show (⟨g, 0, none⟩ : Addr).add (j * 1 + 0) = _
      rw [Nat.mul_one, Nat.add_zero]; simp only [Addr.add, Nat.zero_add]; cases j <;> rfl
    obtain ⟨h1, _⟩ := own_at h (j : Int) (by omega) (by omega)
    rw [Int.toNat_natCast] at h1
    rw [hu', e, h1]
    have : rd l (j : Int) = p := by simp [rd, List.getD, hj]
    rw [this]
/-- Two lists that hold the same numbers, compared. -/
theorem sameInts_calls {l : List Int} {A A' : Option Addr} {c c' : Nat} {b b' n : Nat} (hn : n ≤ 1000000) (hl : l.length = n) (w : World) (h : w.ownsRow b 3 1 (.slice A n c) n (nums .i64 l)) (h' : w.ownsRow b' 3 1 (.slice A' n c') n (nums .i64 l)) :
    Calls Tryd.prog 9 #[.slice A n c, .slice A' n c'] w fun e w' => e = .returned (.bool true) ∧ Below w.heap.size w w' := by
  obtain ⟨h1, h2⟩ := own_ints h hl hn
  obtain ⟨h3, h4⟩ := own_ints h' hl hn
  have := spec_SameInts.calls (l.length + 1) A c l A' c' l true w h1 h2 h3 h4 (same_ef l (by omega))
  rw [hl] at this
  refine this.mono ?_
  rintro e w' ⟨rfl, hd⟩
  exact ⟨rfl, hd.below⟩
/-- The texts as letters. -/
theorem texts_of (l : List ByteArray) : (l.map ByteArray.toList).map bs = l := by
  rw [List.map_map]
  conv => rhs; rw [← List.map_id l]
  exact List.map_congr_left fun s _ => bs_self s
theorem toks_of {ts : List (List UInt8)} {A : Option Addr} {w : World} (h : Kd.C Kd.string w A ts.length (ts.map bs)) : Toks ts A w := by
  intro i hi
  obtain ⟨ad, h1, h2⟩ := Kd.at_string h (i : Int) (by omega) (by omega)
  refine ⟨ad, h1, ?_⟩
  rw [show rdOf ByteArray.empty (ts.map bs) (i : Int) = bs (ts[i]'hi) from by simp [rdOf, hi]] at h2
  simpa using h2
set_option maxHeartbeats 4000000 in
set_option maxRecDepth 100000 in
theorem law_calls (x : Int) (A : Option Addr) (l : List ByteArray) (c : Nat) (w : World) (hx : (Lit.int .i64 x).wf = true) (hc : l.length ≤ c) (hn : l.length ≤ 140737488351232) (hC : Kd.C Kd.string w A l.length l) :
    Calls Tryd.prog 3 #[.int .i64 x, .slice A l.length c] w fun e w' => e = .returned (.bool true) ∧ Below w.heap.size w w' := by
  obtain ⟨b, kf, hkf, hsz⟩ := fits_ef l hn
  have HF := Lib.hid (laws_zzFits1.calls kf A c l b w hC hc hkf)
  clear hkf
  cases b with
  | false =>
    go_enter Tryd.func3, Tryd.ntmps3
    go_wp2_with (go_at_call 6; refine HF.out.mono ?_; rintro e w1 ⟨rfl, hd⟩; have HB := Lib.hid hd.below)
    go_ret
    exact ⟨rfl, HB.out⟩
  | true =>
    by_cases h1 : x < 1
    · have z1 : decide (x < 1) = true := decide_eq_true h1
      go_enter Tryd.func3, Tryd.ntmps3
      go_wp2_with (go_at_call 6; refine HF.out.mono ?_; rintro e w1 ⟨rfl, hd⟩; have HB := Lib.hid hd.below)
      go_ret
      exact ⟨rfl, HB.out⟩
    have z1 : decide (x < 1) = false := decide_eq_false h1
    by_cases h2 : 500 < x
    · have z2 : decide (500 < x) = true := decide_eq_true h2
      go_enter Tryd.func3, Tryd.ntmps3
      go_wp2_with (go_at_call 6; refine HF.out.mono ?_; rintro e w1 ⟨rfl, hd⟩; have HB := Lib.hid hd.below)
      go_ret
      exact ⟨rfl, HB.out⟩
    have z2 : decide (500 < x) = false := decide_eq_false h2
    by_cases h3 : 30 < l.length
    · have z3 : decide (30 < (l.length : Int)) = true := decide_eq_true (by omega)
      have z3' : decide (30 < l.length) = true := decide_eq_true h3
      go_enter Tryd.func3, Tryd.ntmps3
      go_wp2_with (go_at_call 6; refine HF.out.mono ?_; rintro e w1 ⟨rfl, hd⟩; have HB := Lib.hid hd.below)
      go_ret
      exact ⟨rfl, HB.out⟩
    have z3 : decide (30 < (l.length : Int)) = false := decide_eq_false (by omega)
    have z3' : decide (30 < l.length) = false := decide_eq_false h3
    obtain ⟨n, rfl⟩ : ∃ n : Nat, x = (n : Int) := ⟨x.toNat, by omega⟩
    have hn5 : n ≤ 1000 := by omega
    obtain ⟨ts, rfl⟩ : ∃ ts : List (List UInt8), l = ts.map bs := ⟨_, (texts_of l).symm⟩
    rw [List.length_map] at *
    have hlen : ∀ t ∈ ts, t.length ≤ 2147483647 := fun t ht => by
      obtain ⟨i, hi, rfl⟩ := List.getElem_of_mem ht
      have := hsz rfl i (by simpa using hi)
      rw [List.getElem_map, bs_size] at this
      exact this
    have HS := Lib.hid (fun W (hB : Below w.heap.size w W) => spec_collected n hn5 ts (by omega) hlen A c W (toks_of (Kd.C_below hC hB)))
    have HI := Lib.hid (fun W (hB : Below w.heap.size w W) M (hR : Run n ts M) (hne : M ts.length ≠ []) => impl_calls n hn5 M ts (by omega) hR hne A c hc W (toks_of (Kd.C_below hC hB)) (Kd.C_below hC hB))
    clear hC hlen hsz
    go_enter Tryd.func3, Tryd.ntmps3
    go_upto_region 6 with (first
      | (go_at_call 6; refine HF.out.mono ?_; rintro e w1 ⟨rfl, hd⟩; have HB := Lib.hid hd.below; clear hd)
      | (go_at_call 7; refine (HS.out _ HB.out).mono ?_; rintro e w2 ⟨v, ok, L, rfl, ho, hM, hB2⟩; have HB2 := Lib.hid (below_step HB.out hB2); have HO := Lib.hid ho; have HM := Lib.hid hM; obtain ⟨A2, cv, rfl⟩ := own_slice ho; clear ho hM hB2 HB))
    cases ok with
    | false =>
      go_wp2_with fail
      go_ret
      exact ⟨rfl, HB2.out⟩
    | true =>
      obtain ⟨M, hR, hM⟩ := HM.out rfl
      by_cases h4 : L.length = 0
      · have z4 : ((L.length : Int) == 0) = true := beq_iff_eq.2 (by omega)
        go_wp2_with fail
        go_ret
        exact ⟨rfl, HB2.out⟩
      have z4 : ((L.length : Int) == 0) = false := beq_eq_false_iff_ne.2 (by omega)
      by_cases h5 : 5000 < L.length
      · have z5 : decide (5000 < (L.length : Int)) = true := decide_eq_true (by omega)
        have z5' : decide (5000 < L.length) = true := decide_eq_true h5
        go_wp2_with fail
        go_ret
        exact ⟨rfl, HB2.out⟩
      have z5 : decide (5000 < (L.length : Int)) = false := decide_eq_false (by omega)
      have z5' : decide (5000 < L.length) = false := decide_eq_false h5
      have HJ := Lib.hid (HI.out w2 HB2.out M hR (fun h => h4 (by rw [← hM, h]; rfl)))
      rw [hM] at HJ
      have hml : L.length ≤ 1000000 := by omega
      clear HM HI hR hM HS HF
      go_wp2_with (first
        | (go_at_call 8; refine HJ.out.mono ?_; rintro e w3 ⟨v3, rfl, ho3, hB3⟩; have HB3 := Lib.hid (below_step HB2.out hB3); have HO3 := Lib.hid ho3; have HO2 := Lib.hid (pw_own_below HO.out hB3); obtain ⟨A3, cv3, rfl⟩ := own_slice ho3; clear ho3 hB3; have HQ := Lib.hid (sameInts_calls hml rfl w3 HO3.out HO2.out))
        | (go_at_call 9; refine HQ.out.mono ?_; rintro e w4 ⟨rfl, hB4⟩; have HB4 := Lib.hid (below_step HB3.out hB4); clear hB4))
      go_ret
      exact ⟨rfl, HB4.out⟩
end Go.Proofs.YthfihamhkhnckaaDoor
