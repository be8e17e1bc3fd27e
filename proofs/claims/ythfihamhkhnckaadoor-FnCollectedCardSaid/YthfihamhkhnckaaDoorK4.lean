/-
FnCollected: the handlers of suffixes, single pages and last pages: the walks. Conditions: as in K3.
-/
import Derived.Test.YthfihamhkhnckaaDoorK3
namespace Go.Proofs.YthfihamhkhnckaaDoor
open Go.RowKit Go.ChangeShapes Go.Proofs.YthfihamhkhnckaaDoorW.PrintWords

set_option maxHeartbeats 1000000

set_option maxRecDepth 100000 in
theorem suffix_D (l : List Int) (ds : List UInt8) (hds : Num ds) (neg : Bool) (n : Nat) (hn : n ≤ 1000) (hl : l.length ≤ 900000) (B c : Nat) (w : World) (H : Cp B c l w) (hBw : B ≤ w.heap.size) :
    Calls Tryd.prog 45 #[.string (bs ds), .bool neg, .int .i64 (n : Int), .pointer (some ⟨c, 0, none⟩)] w (Done B c (procN neg (n + 1 - val ds) (val ds : Nat) l) w) := by
  have HA := Lib.hid (fun W => atoi ds hds W)
  have hD := hds.val_le
  have h4 := hds.four
  clear hds
  have HC := Lib.hid (fun W (h : Below w.heap.size w W) => Lib.hid (H.below h))
  clear H
  generalize bs ds = S at *
  generalize val ds = D at *
  by_cases hDn : D ≤ n
  · have hgt : decide (n < D) = false := by simp; omega
    go_enter Tryd.func45, Tryd.ntmps45
    go_wp2_with (go_at_call 65; refine (HA.out _).mono ?_; rintro e w1 ⟨rfl, hb1⟩; have hs_hb1 := hb1.size)
    go_loopw [11] (fun v wr => ∃ k : Nat, v = .int .i64 ((D : Int) + (k : Int)) ∧ k ≤ (n + 1 - D) ∧ Hid (Cp B c (procN neg k (D : Int) l) wr) ∧ Hid (Below B w wr)) (fun v _ => (n + 1 - D) - (intOf v - (D : Int)).toNat)
    case atStart => exact ⟨0, by simp, by omega, Lib.hid (HC.out _ hb1).out, Lib.hid (hb1.mono hBw)⟩
    case round =>
      obtain ⟨k, rfl, hk, hC, hb⟩ := hrel
      have hsz := hb.out.size
      have hpl := procN_length neg k (D : Int) l
      by_cases hlt : k < (n + 1 - D)
      · have HP := Lib.hid (process_calls B c (procN neg k (D : Int) l) neg ((D : Int) + (k : Int)) (by omega) wr hC.out (by omega))
        go_wp2_with (go_at_call 63; refine HP.out.mono ?_; rintro e w9 ⟨rfl, h1, h2⟩)
        first
          | exact ⟨⟨k + 1, by simp; omega, by omega, Lib.hid h1, Lib.hid (hb.out.trans h2)⟩, by simp [intOf]; omega⟩
          | (go_round
             case rel =>
               (repeat apply Exists.intro)
               refine ⟨?rel2, rfl⟩
               exact ⟨k + 1, by simp; omega, by omega, Lib.hid h1, Lib.hid (hb.out.trans h2)⟩
             case measure => simp [intOf]; omega)
      · have hke : k = (n + 1 - D) := by omega
        go_wp2_with fail
        exact bodyPost_ret (v := .nilIface) (by simp [results, Tryd.results45, go_sem]) rfl ⟨rfl, by rw [← hke]; exact hC.out, hb.out⟩
  · have hgt : decide (n < D) = true := by simp; omega
    have HZ : procN neg (n + 1 - D) (D : Int) l = l := by rw [show n + 1 - D = 0 by omega]; rfl
    go_enter Tryd.func45, Tryd.ntmps45
    go_wp2_with (go_at_call 65; refine (HA.out _).mono ?_; rintro e w1 ⟨rfl, hb1⟩; have hs_hb1 := hb1.size)
    exact bodyPost_ret (v := .nilIface) (by simp [results, Tryd.results45, go_sem]) rfl ⟨rfl, by rw [HZ]; exact (HC.out _ hb1).out, hb1.mono hBw⟩

set_option maxRecDepth 100000 in
theorem page_l (l : List Int) (neg : Bool) (n : Nat) (_hn : n ≤ 1000) (hl : l.length ≤ 900000) (B c : Nat) (w : World) (H : Cp B c l w) (hBw : B ≤ w.heap.size) :
    Calls Tryd.prog 46 #[.string (bs [108]), .bool neg, .int .i64 (n : Int), .pointer (some ⟨c, 0, none⟩)] w (Done B c (procN neg 1 (n : Int) l) w) := by
  have e1 : ((bs [108]).toList == [108]) = true := by rw [bs_toList]; rfl
  generalize bs [108] = S at e1
  have HP := Lib.hid (process_calls B c l neg (n : Int) (by omega) w H hBw)
  clear H
  go_enter Tryd.func46, Tryd.ntmps46
  go_wp2_with (go_at_call 63; refine HP.out.mono ?_; rintro e w9 ⟨rfl, h1, h2⟩)
  exact bodyPost_ret (v := .nilIface) (by simp [results, Tryd.results46, go_sem]) rfl ⟨rfl, by simpa [procN] using h1, h2⟩
set_option maxRecDepth 100000 in
theorem page_D (l : List Int) (ds : List UInt8) (hds : Num ds) (neg : Bool) (n : Nat) (_hn : n ≤ 1000) (hl : l.length ≤ 900000) (B c : Nat) (w : World) (H : Cp B c l w) (hBw : B ≤ w.heap.size) :
    Calls Tryd.prog 46 #[.string (bs ds), .bool neg, .int .i64 (n : Int), .pointer (some ⟨c, 0, none⟩)] w (Done B c (if val ds ≤ n then procN neg 1 (val ds : Nat) l else l) w) := by
  have h4 := hds.four
  have e1 : ((bs ds).toList == [108]) = false := by rw [bs_toList]; exact hds.not_l.1
  have HPre := fun W => prefix_calls ds [108, 45] (by omega) (by decide) W
  rw [hds.not_l.2] at HPre
  have HPre := Lib.hid HPre
  have HA := Lib.hid (fun W => atoi ds hds W)
  have hD := hds.val_le
  clear hds
  have HC := Lib.hid (fun W (h : Below w.heap.size w W) => Lib.hid (H.below h))
  clear H
  generalize bs ds = S at *
  generalize val ds = D at *
  by_cases hDn : D ≤ n
  · have hgt : decide (n < D) = false := by simp; omega
    rw [if_pos hDn]
    go_enter Tryd.func46, Tryd.ntmps46
    go_wp2_with (first | (go_at_call 64; refine (HPre.out _).mono ?_; rintro e w0 ⟨rfl, rfl⟩) | (go_at_call 65; refine (HA.out _).mono ?_; rintro e w1 ⟨rfl, hb1⟩; have hs_hb1 := hb1.size) | (go_at_call 63; refine (process_calls B c l neg (D : Int) (by omega) w1 (HC.out _ hb1).out (by omega)).mono ?_; rintro e w9 ⟨rfl, h1, h2⟩))
    exact bodyPost_ret (v := .nilIface) (by simp [results, Tryd.results46, go_sem]) rfl ⟨rfl, by simpa [procN] using h1, (hb1.mono hBw).trans h2⟩
  · have hgt : decide (n < D) = true := by simp; omega
    rw [if_neg hDn]
    go_enter Tryd.func46, Tryd.ntmps46
    go_wp2_with (first | (go_at_call 64; refine (HPre.out _).mono ?_; rintro e w0 ⟨rfl, rfl⟩) | (go_at_call 65; refine (HA.out _).mono ?_; rintro e w1 ⟨rfl, hb1⟩; have hs_hb1 := hb1.size))
    exact bodyPost_ret (v := .nilIface) (by simp [results, Tryd.results46, go_sem]) rfl ⟨rfl, (HC.out _ hb1).out, hb1.mono hBw⟩

theorem split_cells (l : List UInt8) (parts : List (List UInt8)) (hp : splitL 45 l = parts) (h0 : parts ≠ []) (hn : l.length ≤ 1000000) (w : World) :
    Calls Tryd.prog 47 #[.string (bs l), .string ⟨#[45]⟩] w fun e w' => ∃ g cap, e = .returned (.slice (some ⟨g, 0, none⟩) parts.length cap) ∧ (∀ i p, parts[i]? = some p → w'.cell? ⟨g, i, none⟩ = some (.string (bs p))) ∧ Below w.heap.size w w' := by
  refine (split_walk 45 l hn w).mono ?_
  rintro e w' ⟨g, cap, rfl, ho, hb⟩
  rw [hp] at ho ⊢
  have := List.length_pos_iff.2 h0
  refine ⟨g, cap, rfl, fun i p hi => ?_, hb⟩
  have h := ho.cells (g := g) rfl i (.string (bs p)) (by simp [strsV, hi])
  rwa [add_plain] at h
theorem Num.no_dash {ds : List UInt8} (h : Num ds) : (45 : UInt8) ∉ ds := fun hm => by
  have := (h.all 45 hm).1
  exact absurd this (by decide)

set_option maxRecDepth 100000 in
theorem page_lD (l : List Int) (ds : List UInt8) (hds : Num ds) (neg : Bool) (n : Nat) (hn : n ≤ 1000) (hl : l.length ≤ 900000) (B c : Nat) (w : World) (H : Cp B c l w) (hBw : B ≤ w.heap.size) :
    Calls Tryd.prog 46 #[.string (bs (108 :: 45 :: ds)), .bool neg, .int .i64 (n : Int), .pointer (some ⟨c, 0, none⟩)] w (Done B c (if val ds < n then procN neg 1 ((n : Int) - (val ds : Nat)) l else l) w) := by
  have h4 := hds.four
  have e1 : ((bs (108 :: 45 :: ds)).toList == [108]) = false := by rw [bs_toList]; rfl
  have HPre := fun W => prefix_calls (108 :: 45 :: ds) [108, 45] (by simp; omega) (by decide) W
  rw [show ([108, 45] : List UInt8).isPrefixOf (108 :: 45 :: ds) = true by simp [List.isPrefixOf]] at HPre
  have HPre := Lib.hid HPre
  have HSuf := fun W => suffix_calls (108 :: 45 :: ds) (by simp) (by simp; omega) W
  have hsuf : (List.drop ((108 :: 45 :: ds).length - 1) (108 :: 45 :: ds) == [45]) = false := by
    rw [beq_eq_false_iff_ne]
    intro h
    have h9 : (45 : UInt8) ∈ (108 :: 45 :: ds).drop ((108 :: 45 :: ds).length - 1) := by rw [h]; simp
    obtain ⟨c, r, rfl, _, _⟩ := hds.cons
    rw [show (108 :: 45 :: c :: r).length - 1 = r.length + 2 by simp] at h9
    exact hds.no_dash (List.mem_of_mem_drop (i := r.length) h9)
  rw [hsuf] at HSuf
  have HSuf := Lib.hid HSuf
  have hx := bs_extract (108 :: 45 :: ds) 2 (ds.length + 2)
  rw [List.take_of_length_le (by simp)] at hx
  have hx' : (bs (108 :: 45 :: ds)).extract 2 (ds.length + 2) = bs ds := hx
  have hsz' : (bs (108 :: 45 :: ds)).size = ds.length + 2 := by rw [bs_size]; rfl
  have hNT : ds.length ≤ 5 := by first | omega | (simp; omega)
  have HS := Lib.hid (fun W => split_cells ds [ds] (splitL_none 45 ds hds.no_dash) (by simp) (by first | omega | (simp; omega)) W)
  have HA := Lib.hid (fun W => atoi ds hds W)
  have hD := hds.val_le
  clear hx hds hsuf
  have HC := Lib.hid (fun W (h : Below w.heap.size w W) => Lib.hid (H.below h))
  clear H
  obtain ⟨U, hU⟩ : ∃ U, bs ds = U := ⟨_, rfl⟩
  rw [hU] at HA
  generalize bs (108 :: 45 :: ds) = S at *
  rw [hU] at hx' HS
  have HU := Lib.hid hU
  clear hU
  generalize ds.length = NT at *
  generalize val ds = D at *
  by_cases hDn : D < n
  · have hlt : ¬ ((n : Int) - (D : Int) < 1) := by omega
    rw [if_pos hDn]
    go_enter Tryd.func46, Tryd.ntmps46
    go_wp2_with (first | (go_at_call 64; refine (HPre.out _).mono ?_; rintro e w0 ⟨rfl, rfl⟩) | (go_at_call 47; with_reducible refine (HS.out _).mono ?_; rintro e w2 ⟨g, cap, rfl, hcl, hb2⟩; have hs2 := hb2.size; have k0 := hcl 0 ds rfl; rw [HU.out] at k0; clear hcl) | (go_at_call 65; refine (HA.out _).mono ?_; rintro e w1 ⟨rfl, hb1⟩; have hs_hb1 := hb1.size) | (go_at_call 44; refine (HSuf.out _).mono ?_; rintro e w8 ⟨rfl, rfl⟩))
    go_loopw [13] (fun v wr => ∃ k : Nat, v = .int .i64 (((n : Int) - (D : Int)) + (k : Int)) ∧ k ≤ 1 ∧ Hid (Cp B c (procN neg k ((n : Int) - (D : Int)) l) wr) ∧ Hid (Below B w wr)) (fun v _ => 1 - (intOf v - ((n : Int) - (D : Int))).toNat)
    case atStart => exact ⟨0, by simp, by omega, Lib.hid (HC.out _ (hb2.trans (hb1.mono hs2))).out, Lib.hid ((hb2.trans (hb1.mono hs2)).mono hBw)⟩
    case round =>
      obtain ⟨k, rfl, hk, hC, hb⟩ := hrel
      have hsz := hb.out.size
      have hpl := procN_length neg k ((n : Int) - (D : Int)) l
      by_cases hlt : k < 1
      · have HP := Lib.hid (process_calls B c (procN neg k ((n : Int) - (D : Int)) l) neg (((n : Int) - (D : Int)) + (k : Int)) (by omega) wr hC.out (by omega))
        go_wp2_with (go_at_call 63; refine HP.out.mono ?_; rintro e w9 ⟨rfl, h1, h2⟩)
        first
          | exact ⟨⟨k + 1, by simp; omega, by omega, Lib.hid h1, Lib.hid (hb.out.trans h2)⟩, by simp [intOf]; omega⟩
          | (go_round
             case rel =>
               (repeat apply Exists.intro)
               refine ⟨?rel2, rfl⟩
               exact ⟨k + 1, by simp; omega, by omega, Lib.hid h1, Lib.hid (hb.out.trans h2)⟩
             case measure => simp [intOf]; omega)
      · have hke : k = 1 := by omega
        go_wp2_with fail
        exact bodyPost_ret (v := .nilIface) (by simp [results, Tryd.results46, go_sem]) rfl ⟨rfl, by rw [← hke]; exact hC.out, hb.out⟩
  · have hlt : ((n : Int) - (D : Int) < 1) := by omega
    rw [if_neg hDn]
    go_enter Tryd.func46, Tryd.ntmps46
    go_wp2_with (first | (go_at_call 64; refine (HPre.out _).mono ?_; rintro e w0 ⟨rfl, rfl⟩) | (go_at_call 47; with_reducible refine (HS.out _).mono ?_; rintro e w2 ⟨g, cap, rfl, hcl, hb2⟩; have hs2 := hb2.size; have k0 := hcl 0 ds rfl; rw [HU.out] at k0; clear hcl) | (go_at_call 65; refine (HA.out _).mono ?_; rintro e w1 ⟨rfl, hb1⟩; have hs_hb1 := hb1.size) | (go_at_call 44; refine (HSuf.out _).mono ?_; rintro e w8 ⟨rfl, rfl⟩))
    exact bodyPost_ret (v := .nilIface) (by simp [results, Tryd.results46, go_sem]) rfl ⟨rfl, (HC.out _ (hb2.trans (hb1.mono hs2))).out, (hb2.trans (hb1.mono hs2)).mono hBw⟩

set_option maxRecDepth 100000 in
theorem page_lDx (l : List Int) (ds : List UInt8) (hds : Num ds) (neg : Bool) (n : Nat) (hn : n ≤ 1000) (hl : l.length ≤ 900000) (B c : Nat) (w : World) (H : Cp B c l w) (hBw : B ≤ w.heap.size) :
    Calls Tryd.prog 46 #[.string (bs (108 :: 45 :: (ds ++ [45]))), .bool neg, .int .i64 (n : Int), .pointer (some ⟨c, 0, none⟩)] w (Done B c (if val ds < n then procN neg ((val ds) + 1) ((n : Int) - (val ds : Nat)) l else l) w) := by
  have h4 := hds.four
  have e1 : ((bs (108 :: 45 :: (ds ++ [45]))).toList == [108]) = false := by rw [bs_toList]; rfl
  have HPre := fun W => prefix_calls (108 :: 45 :: (ds ++ [45])) [108, 45] (by simp; omega) (by decide) W
  rw [show ([108, 45] : List UInt8).isPrefixOf (108 :: 45 :: (ds ++ [45])) = true by simp [List.isPrefixOf]] at HPre
  have HPre := Lib.hid HPre
  have HSuf := fun W => suffix_calls (108 :: 45 :: (ds ++ [45])) (by simp) (by simp; omega) W
  have hsuf : (List.drop ((108 :: 45 :: (ds ++ [45])).length - 1) (108 :: 45 :: (ds ++ [45])) == [45]) = true := by
    rw [show (108 :: 45 :: (ds ++ [45])).length - 1 = ds.length + 2 by simp, show (108 :: 45 :: (ds ++ [45])) = (108 :: 45 :: ds) ++ [45] by simp, List.drop_left' (by simp)]
    rfl
  rw [hsuf] at HSuf
  have HSuf := Lib.hid HSuf
  have hx := bs_extract (108 :: 45 :: (ds ++ [45])) 2 ((ds ++ [45]).length + 2)
  rw [List.take_of_length_le (by simp)] at hx
  have hx' : (bs (108 :: 45 :: (ds ++ [45]))).extract 2 ((ds ++ [45]).length + 2) = bs (ds ++ [45]) := hx
  have hsz' : (bs (108 :: 45 :: (ds ++ [45]))).size = (ds ++ [45]).length + 2 := by rw [bs_size]; rfl
  have hNT : (ds ++ [45]).length ≤ 5 := by first | omega | (simp; omega)
  have HS := Lib.hid (fun W => split_cells (ds ++ [45]) [ds, []] (by rw [splitL_at 45 ds [] hds.no_dash]; rfl) (by simp) (by first | omega | (simp; omega)) W)
  have HA := Lib.hid (fun W => atoi ds hds W)
  have hD := hds.val_le
  clear hx hds hsuf
  have HC := Lib.hid (fun W (h : Below w.heap.size w W) => Lib.hid (H.below h))
  clear H
  obtain ⟨U, hU⟩ : ∃ U, bs ds = U := ⟨_, rfl⟩
  rw [hU] at HA
  generalize bs (108 :: 45 :: (ds ++ [45])) = S at *
  generalize bs (ds ++ [45]) = T at *
  have HU := Lib.hid hU
  clear hU
  generalize (ds ++ [45]).length = NT at *
  generalize val ds = D at *
  by_cases hDn : D < n
  · have hlt : ¬ ((n : Int) - (D : Int) < 1) := by omega
    rw [if_pos hDn]
    go_enter Tryd.func46, Tryd.ntmps46
    go_wp2_with (first | (go_at_call 64; refine (HPre.out _).mono ?_; rintro e w0 ⟨rfl, rfl⟩) | (go_at_call 47; with_reducible refine (HS.out _).mono ?_; rintro e w2 ⟨g, cap, rfl, hcl, hb2⟩; have hs2 := hb2.size; have k0 := hcl 0 ds rfl; rw [HU.out] at k0; clear hcl) | (go_at_call 65; refine (HA.out _).mono ?_; rintro e w1 ⟨rfl, hb1⟩; have hs_hb1 := hb1.size) | (go_at_call 44; refine (HSuf.out _).mono ?_; rintro e w8 ⟨rfl, rfl⟩))
    go_loopw [13] (fun v wr => ∃ k : Nat, v = .int .i64 (((n : Int) - (D : Int)) + (k : Int)) ∧ k ≤ (D + 1) ∧ Hid (Cp B c (procN neg k ((n : Int) - (D : Int)) l) wr) ∧ Hid (Below B w wr)) (fun v _ => (D + 1) - (intOf v - ((n : Int) - (D : Int))).toNat)
    case atStart => exact ⟨0, by simp, by omega, Lib.hid (HC.out _ (hb2.trans (hb1.mono hs2))).out, Lib.hid ((hb2.trans (hb1.mono hs2)).mono hBw)⟩
    case round =>
      obtain ⟨k, rfl, hk, hC, hb⟩ := hrel
      have hsz := hb.out.size
      have hpl := procN_length neg k ((n : Int) - (D : Int)) l
      by_cases hlt : k < (D + 1)
      · have HP := Lib.hid (process_calls B c (procN neg k ((n : Int) - (D : Int)) l) neg (((n : Int) - (D : Int)) + (k : Int)) (by omega) wr hC.out (by omega))
        go_wp2_with (go_at_call 63; refine HP.out.mono ?_; rintro e w9 ⟨rfl, h1, h2⟩)
        first
          | exact ⟨⟨k + 1, by simp; omega, by omega, Lib.hid h1, Lib.hid (hb.out.trans h2)⟩, by simp [intOf]; omega⟩
          | (go_round
             case rel =>
               (repeat apply Exists.intro)
               refine ⟨?rel2, rfl⟩
               exact ⟨k + 1, by simp; omega, by omega, Lib.hid h1, Lib.hid (hb.out.trans h2)⟩
             case measure => simp [intOf]; omega)
      · have hke : k = (D + 1) := by omega
        go_wp2_with fail
        exact bodyPost_ret (v := .nilIface) (by simp [results, Tryd.results46, go_sem]) rfl ⟨rfl, by rw [← hke]; exact hC.out, hb.out⟩
  · have hlt : ((n : Int) - (D : Int) < 1) := by omega
    rw [if_neg hDn]
    go_enter Tryd.func46, Tryd.ntmps46
    go_wp2_with (first | (go_at_call 64; refine (HPre.out _).mono ?_; rintro e w0 ⟨rfl, rfl⟩) | (go_at_call 47; with_reducible refine (HS.out _).mono ?_; rintro e w2 ⟨g, cap, rfl, hcl, hb2⟩; have hs2 := hb2.size; have k0 := hcl 0 ds rfl; rw [HU.out] at k0; clear hcl) | (go_at_call 65; refine (HA.out _).mono ?_; rintro e w1 ⟨rfl, hb1⟩; have hs_hb1 := hb1.size) | (go_at_call 44; refine (HSuf.out _).mono ?_; rintro e w8 ⟨rfl, rfl⟩))
    exact bodyPost_ret (v := .nilIface) (by simp [results, Tryd.results46, go_sem]) rfl ⟨rfl, (HC.out _ (hb2.trans (hb1.mono hs2))).out, (hb2.trans (hb1.mono hs2)).mono hBw⟩

end Go.Proofs.YthfihamhkhnckaaDoor
