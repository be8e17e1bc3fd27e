/-
FnCollected: the handler of ranges: the walks. Conditions: as in K3.
-/
import Derived.Test.YthfihamhkhnckaaDoorK4
namespace Go.Proofs.YthfihamhkhnckaaDoor
open Go.RowKit Go.ChangeShapes Go.Proofs.YthfihamhkhnckaaDoorW.PrintWords

set_option maxHeartbeats 1000000

set_option maxRecDepth 100000 in
theorem range_DE (l : List Int) (ds es : List UInt8) (hds : Num ds) (hes : Num es) (neg : Bool) (n : Nat) (hn : n ≤ 1000) (hl : l.length ≤ 900000) (B c : Nat) (w : World) (H : Cp B c l w) (hBw : B ≤ w.heap.size) (g cap : Nat) (c0 : w.cell? ⟨g, 0, none⟩ = some (.string (bs ds))) (c1 : w.cell? ⟨g, 1, none⟩ = some (.string (bs es))) :
    Calls Tryd.prog 48 #[.slice (some ⟨g, 0, none⟩) 2 cap, .int .i64 (n : Int), .bool neg, .pointer (some ⟨c, 0, none⟩)] w (Done B c (procN neg (min (val es) n + 1 - (val ds)) (val ds : Nat) l) w) := by
  have HA := Lib.hid (fun W => atoi ds hds W)
  have hD := hds.val_le
  have hD1 := hds.val_pos
  have HE := Lib.hid (fun W => atoi es hes W)
  have hE := hes.val_le
  have hE1 := hes.val_pos
  have e1 : ((bs es).toList == [108]) = false := by rw [bs_toList]; exact hes.not_l.1
  clear hds hes
  have HC := Lib.hid (fun W (h : Below w.heap.size w W) => Lib.hid (H.below h))
  clear H
  generalize bs ds = U at *
  generalize val ds = D at *
  generalize bs es = V at *
  generalize val es = E at *
  by_cases hc0 : n < D
  · have hgt : decide (n < D) = true := by simp; omega
    have HZ : procN neg (min E n + 1 - D) (D : Int) l = l := by rw [show min E n + 1 - D = 0 by omega]; rfl
    go_enter Tryd.func48, Tryd.ntmps48
    go_wp2_with (first | (go_at_call 65; with_reducible refine (HA.out _).mono ?_; rintro e w1 ⟨rfl, hb1⟩; have hs1 := hb1.size; have k1 := pw_cell_below hb1 c1) | (go_at_call 65; with_reducible refine (HE.out _).mono ?_; rintro e w2 ⟨rfl, hb2⟩; have hs2 := hb2.size; have HBB := Lib.hid (hb1.trans (hb2.mono hs1))))
    exact bodyPost_ret (v := .nilIface) (by simp [results, Tryd.results48, go_sem]) rfl ⟨rfl, by rw [HZ]; exact (HC.out _ hb1).out, hb1.mono hBw⟩
  by_cases hc1 : E < D
  · have hgt : decide (n < D) = false := by simp; omega
    have hlt1 : decide (E < D) = true := by simp; omega
    have HZ : procN neg (min E n + 1 - D) (D : Int) l = l := by rw [show min E n + 1 - D = 0 by omega]; rfl
    go_enter Tryd.func48, Tryd.ntmps48
    go_wp2_with (first | (go_at_call 65; with_reducible refine (HA.out _).mono ?_; rintro e w1 ⟨rfl, hb1⟩; have hs1 := hb1.size; have k1 := pw_cell_below hb1 c1) | (go_at_call 65; with_reducible refine (HE.out _).mono ?_; rintro e w2 ⟨rfl, hb2⟩; have hs2 := hb2.size; have HBB := Lib.hid (hb1.trans (hb2.mono hs1))))
    exact bodyPost_ret (v := .nilIface) (by simp [results, Tryd.results48, go_sem]) rfl ⟨rfl, by rw [HZ]; exact (HC.out _ HBB.out).out, HBB.out.mono hBw⟩
  by_cases hc2 : n < E
  · have hgt : decide (n < D) = false := by simp; omega
    have hlt1 : decide (E < D) = false := by simp; omega
    have hgt2 : decide (n < E) = true := by simp; omega
    rw [show min E n + 1 - D = n + 1 - D by omega]
    go_enter Tryd.func48, Tryd.ntmps48
    go_wp2_with (first | (go_at_call 65; with_reducible refine (HA.out _).mono ?_; rintro e w1 ⟨rfl, hb1⟩; have hs1 := hb1.size; have k1 := pw_cell_below hb1 c1) | (go_at_call 65; with_reducible refine (HE.out _).mono ?_; rintro e w2 ⟨rfl, hb2⟩; have hs2 := hb2.size; have HBB := Lib.hid (hb1.trans (hb2.mono hs1))))
    go_loopw [15] (fun v wr => ∃ k : Nat, v = .int .i64 ((D : Int) + (k : Int)) ∧ k ≤ (n + 1 - D) ∧ Hid (Cp B c (procN neg k (D : Int) l) wr) ∧ Hid (Below B w wr)) (fun v _ => (n + 1 - D) - (intOf v - (D : Int)).toNat)
    case atStart => exact ⟨0, by simp, by omega, Lib.hid (HC.out _ HBB.out).out, Lib.hid (HBB.out.mono hBw)⟩
    case round =>
      obtain ⟨k, rfl, hk, hC, hb⟩ := hrel
      have hsz := hb.out.size
      have hpl := procN_length neg k (D : Int) l
      by_cases hlt : k < (n + 1 - D)
      · have HP := Lib.hid (process_calls B c (procN neg k (D : Int) l) neg ((D : Int) + (k : Int)) (by omega) wr hC.out (by omega))
        go_wp2_with (go_at_call 63; refine HP.out.mono ?_; rintro e w9 ⟨rfl, h1, h2⟩)
        first
          | exact ⟨⟨k + 1, by simp; omega, by omega, Lib.hid h1, Lib.hid (hb.out.trans h2)⟩, by simp [intOf]; omega⟩
          | (go_round
             case rel =>
               (repeat apply Exists.intro)
               refine ⟨?rel2, rfl⟩
               exact ⟨k + 1, by simp; omega, by omega, Lib.hid h1, Lib.hid (hb.out.trans h2)⟩
             case measure => simp [intOf]; omega)
      · have hke : k = (n + 1 - D) := by omega
        go_wp2_with fail
        exact bodyPost_ret (v := .nilIface) (by simp [results, Tryd.results48, go_sem]) rfl ⟨rfl, by rw [← hke]; exact hC.out, hb.out⟩
  have hgt : decide (n < D) = false := by simp; omega
  have hlt1 : decide (E < D) = false := by simp; omega
  have hgt2 : decide (n < E) = false := by simp; omega
  rw [show min E n + 1 - D = E + 1 - D by omega]
  go_enter Tryd.func48, Tryd.ntmps48
  go_wp2_with (first | (go_at_call 65; with_reducible refine (HA.out _).mono ?_; rintro e w1 ⟨rfl, hb1⟩; have hs1 := hb1.size; have k1 := pw_cell_below hb1 c1) | (go_at_call 65; with_reducible refine (HE.out _).mono ?_; rintro e w2 ⟨rfl, hb2⟩; have hs2 := hb2.size; have HBB := Lib.hid (hb1.trans (hb2.mono hs1))))
  go_loopw [15] (fun v wr => ∃ k : Nat, v = .int .i64 ((D : Int) + (k : Int)) ∧ k ≤ (E + 1 - D) ∧ Hid (Cp B c (procN neg k (D : Int) l) wr) ∧ Hid (Below B w wr)) (fun v _ => (E + 1 - D) - (intOf v - (D : Int)).toNat)
  case atStart => exact ⟨0, by simp, by omega, Lib.hid (HC.out _ HBB.out).out, Lib.hid (HBB.out.mono hBw)⟩
  case round =>
    obtain ⟨k, rfl, hk, hC, hb⟩ := hrel
    have hsz := hb.out.size
    have hpl := procN_length neg k (D : Int) l
    by_cases hlt : k < (E + 1 - D)
    · have HP := Lib.hid (process_calls B c (procN neg k (D : Int) l) neg ((D : Int) + (k : Int)) (by omega) wr hC.out (by omega))
      go_wp2_with (go_at_call 63; refine HP.out.mono ?_; rintro e w9 ⟨rfl, h1, h2⟩)
      first
        | exact ⟨⟨k + 1, by simp; omega, by omega, Lib.hid h1, Lib.hid (hb.out.trans h2)⟩, by simp [intOf]; omega⟩
        | (go_round
           case rel =>
             (repeat apply Exists.intro)
             refine ⟨?rel2, rfl⟩
             exact ⟨k + 1, by simp; omega, by omega, Lib.hid h1, Lib.hid (hb.out.trans h2)⟩
           case measure => simp [intOf]; omega)
    · have hke : k = (E + 1 - D) := by omega
      go_wp2_with fail
      exact bodyPost_ret (v := .nilIface) (by simp [results, Tryd.results48, go_sem]) rfl ⟨rfl, by rw [← hke]; exact hC.out, hb.out⟩

set_option maxRecDepth 100000 in
theorem range_Dl (l : List Int) (ds : List UInt8) (hds : Num ds) (neg : Bool) (n : Nat) (hn : n ≤ 1000) (hl : l.length ≤ 900000) (B c : Nat) (w : World) (H : Cp B c l w) (hBw : B ≤ w.heap.size) (g cap : Nat) (c0 : w.cell? ⟨g, 0, none⟩ = some (.string (bs ds))) (c1 : w.cell? ⟨g, 1, none⟩ = some (.string (bs [108]))) :
    Calls Tryd.prog 48 #[.slice (some ⟨g, 0, none⟩) 2 cap, .int .i64 (n : Int), .bool neg, .pointer (some ⟨c, 0, none⟩)] w (Done B c (procN neg (n + 1 - (val ds)) (val ds : Nat) l) w) := by
  have HA := Lib.hid (fun W => atoi ds hds W)
  have hD := hds.val_le
  have hD1 := hds.val_pos
  have e1 : ((bs [108]).toList == [108]) = true := by rw [bs_toList]; rfl
  generalize bs [108] = K at *
  clear hds
  have HC := Lib.hid (fun W (h : Below w.heap.size w W) => Lib.hid (H.below h))
  clear H
  generalize bs ds = U at *
  generalize val ds = D at *
  by_cases hc0 : n < D
  · have hgt : decide (n < D) = true := by simp; omega
    have HZ : procN neg (n + 1 - D) (D : Int) l = l := by rw [show n + 1 - D = 0 by omega]; rfl
    go_enter Tryd.func48, Tryd.ntmps48
    go_wp2_with (go_at_call 65; with_reducible refine (HA.out _).mono ?_; rintro e w1 ⟨rfl, hb1⟩; have hs1 := hb1.size; have k1 := pw_cell_below hb1 c1)
    exact bodyPost_ret (v := .nilIface) (by simp [results, Tryd.results48, go_sem]) rfl ⟨rfl, by rw [HZ]; exact (HC.out _ hb1).out, hb1.mono hBw⟩
  have hgt : decide (n < D) = false := by simp; omega
  rw [show n + 1 - D = n + 1 - D by omega]
  go_enter Tryd.func48, Tryd.ntmps48
  go_wp2_with (go_at_call 65; with_reducible refine (HA.out _).mono ?_; rintro e w1 ⟨rfl, hb1⟩; have hs1 := hb1.size; have k1 := pw_cell_below hb1 c1)
  go_loopw [15] (fun v wr => ∃ k : Nat, v = .int .i64 ((D : Int) + (k : Int)) ∧ k ≤ (n + 1 - D) ∧ Hid (Cp B c (procN neg k (D : Int) l) wr) ∧ Hid (Below B w wr)) (fun v _ => (n + 1 - D) - (intOf v - (D : Int)).toNat)
  case atStart => exact ⟨0, by simp, by omega, Lib.hid (HC.out _ hb1).out, Lib.hid (hb1.mono hBw)⟩
  case round =>
    obtain ⟨k, rfl, hk, hC, hb⟩ := hrel
    have hsz := hb.out.size
    have hpl := procN_length neg k (D : Int) l
    by_cases hlt : k < (n + 1 - D)
    · have HP := Lib.hid (process_calls B c (procN neg k (D : Int) l) neg ((D : Int) + (k : Int)) (by omega) wr hC.out (by omega))
      go_wp2_with (go_at_call 63; refine HP.out.mono ?_; rintro e w9 ⟨rfl, h1, h2⟩)
      first
        | exact ⟨⟨k + 1, by simp; omega, by omega, Lib.hid h1, Lib.hid (hb.out.trans h2)⟩, by simp [intOf]; omega⟩
        | (go_round
           case rel =>
             (repeat apply Exists.intro)
             refine ⟨?rel2, rfl⟩
             exact ⟨k + 1, by simp; omega, by omega, Lib.hid h1, Lib.hid (hb.out.trans h2)⟩
           case measure => simp [intOf]; omega)
    · have hke : k = (n + 1 - D) := by omega
      go_wp2_with fail
      exact bodyPost_ret (v := .nilIface) (by simp [results, Tryd.results48, go_sem]) rfl ⟨rfl, by rw [← hke]; exact hC.out, hb.out⟩

set_option maxRecDepth 100000 in
theorem range_DlE (l : List Int) (ds es : List UInt8) (hds : Num ds) (hes : Num es) (neg : Bool) (n : Nat) (hn : n ≤ 1000) (hl : l.length ≤ 900000) (B c : Nat) (w : World) (H : Cp B c l w) (hBw : B ≤ w.heap.size) (g cap : Nat) (c0 : w.cell? ⟨g, 0, none⟩ = some (.string (bs ds))) (c1 : w.cell? ⟨g, 1, none⟩ = some (.string (bs [108]))) (c2 : w.cell? ⟨g, 2, none⟩ = some (.string (bs es))) :
    Calls Tryd.prog 48 #[.slice (some ⟨g, 0, none⟩) 3 cap, .int .i64 (n : Int), .bool neg, .pointer (some ⟨c, 0, none⟩)] w (Done B c (procN neg (n - (val es) + 1 - (val ds)) (val ds : Nat) l) w) := by
  have HA := Lib.hid (fun W => atoi ds hds W)
  have hD := hds.val_le
  have hD1 := hds.val_pos
  have HE := Lib.hid (fun W => atoi es hes W)
  have hE := hes.val_le
  have hE1 := hes.val_pos
  have e1 : ((bs [108]).toList == [108]) = true := by rw [bs_toList]; rfl
  generalize bs [108] = K at *
  clear hds hes
  have HC := Lib.hid (fun W (h : Below w.heap.size w W) => Lib.hid (H.below h))
  clear H
  generalize bs ds = U at *
  generalize val ds = D at *
  generalize bs es = V at *
  generalize val es = E at *
  by_cases hc0 : n < D
  · have hgt : decide (n < D) = true := by simp; omega
    have HZ : procN neg (n - E + 1 - D) (D : Int) l = l := by rw [show n - E + 1 - D = 0 by omega]; rfl
    go_enter Tryd.func48, Tryd.ntmps48
    go_wp2_with (first | (go_at_call 65; with_reducible refine (HA.out _).mono ?_; rintro e w1 ⟨rfl, hb1⟩; have hs1 := hb1.size; have k1 := pw_cell_below hb1 c1; have k2 := pw_cell_below hb1 c2) | (go_at_call 65; with_reducible refine (HE.out _).mono ?_; rintro e w2 ⟨rfl, hb2⟩; have hs2 := hb2.size; have HBB := Lib.hid (hb1.trans (hb2.mono hs1))))
    exact bodyPost_ret (v := .nilIface) (by simp [results, Tryd.results48, go_sem]) rfl ⟨rfl, by rw [HZ]; exact (HC.out _ hb1).out, hb1.mono hBw⟩
  by_cases hc1 : (n : Int) - (E : Int) < (D : Int)
  · have hgt : decide (n < D) = false := by simp; omega
    have hlt1 : decide ((n : Int) - (E : Int) < (D : Int)) = true := by simp; omega
    have HZ : procN neg (n - E + 1 - D) (D : Int) l = l := by rw [show n - E + 1 - D = 0 by omega]; rfl
    go_enter Tryd.func48, Tryd.ntmps48
    go_wp2_with (first | (go_at_call 65; with_reducible refine (HA.out _).mono ?_; rintro e w1 ⟨rfl, hb1⟩; have hs1 := hb1.size; have k1 := pw_cell_below hb1 c1; have k2 := pw_cell_below hb1 c2) | (go_at_call 65; with_reducible refine (HE.out _).mono ?_; rintro e w2 ⟨rfl, hb2⟩; have hs2 := hb2.size; have HBB := Lib.hid (hb1.trans (hb2.mono hs1))))
    exact bodyPost_ret (v := .nilIface) (by simp [results, Tryd.results48, go_sem]) rfl ⟨rfl, by rw [HZ]; exact (HC.out _ HBB.out).out, HBB.out.mono hBw⟩
  have hgt : decide (n < D) = false := by simp; omega
  have hlt1 : decide ((n : Int) - (E : Int) < (D : Int)) = false := by simp; omega
  have hgt2 : decide ((n : Int) < (n : Int) - (E : Int)) = false := by simp; omega
  have hle3 : E ≤ n := by omega
  rw [show n - E + 1 - D = n - E + 1 - D by omega]
  go_enter Tryd.func48, Tryd.ntmps48
  go_wp2_with (first | (go_at_call 65; with_reducible refine (HA.out _).mono ?_; rintro e w1 ⟨rfl, hb1⟩; have hs1 := hb1.size; have k1 := pw_cell_below hb1 c1; have k2 := pw_cell_below hb1 c2) | (go_at_call 65; with_reducible refine (HE.out _).mono ?_; rintro e w2 ⟨rfl, hb2⟩; have hs2 := hb2.size; have HBB := Lib.hid (hb1.trans (hb2.mono hs1))))
  go_loopw [15] (fun v wr => ∃ k : Nat, v = .int .i64 ((D : Int) + (k : Int)) ∧ k ≤ (n - E + 1 - D) ∧ Hid (Cp B c (procN neg k (D : Int) l) wr) ∧ Hid (Below B w wr)) (fun v _ => (n - E + 1 - D) - (intOf v - (D : Int)).toNat)
  case atStart => exact ⟨0, by simp, by omega, Lib.hid (HC.out _ HBB.out).out, Lib.hid (HBB.out.mono hBw)⟩
  case round =>
    obtain ⟨k, rfl, hk, hC, hb⟩ := hrel
    have hsz := hb.out.size
    have hpl := procN_length neg k (D : Int) l
    by_cases hlt : k < (n - E + 1 - D)
    · have HP := Lib.hid (process_calls B c (procN neg k (D : Int) l) neg ((D : Int) + (k : Int)) (by omega) wr hC.out (by omega))
      go_wp2_with (go_at_call 63; refine HP.out.mono ?_; rintro e w9 ⟨rfl, h1, h2⟩)
      first
        | exact ⟨⟨k + 1, by simp; omega, by omega, Lib.hid h1, Lib.hid (hb.out.trans h2)⟩, by simp [intOf]; omega⟩
        | (go_round
           case rel =>
             (repeat apply Exists.intro)
             refine ⟨?rel2, rfl⟩
             exact ⟨k + 1, by simp; omega, by omega, Lib.hid h1, Lib.hid (hb.out.trans h2)⟩
           case measure => simp [intOf]; omega)
    · have hke : k = (n - E + 1 - D) := by omega
      go_wp2_with fail
      exact bodyPost_ret (v := .nilIface) (by simp [results, Tryd.results48, go_sem]) rfl ⟨rfl, by rw [← hke]; exact hC.out, hb.out⟩

end Go.Proofs.YthfihamhkhnckaaDoor
