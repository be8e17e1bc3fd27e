/-
FnCollected, FnSelected, FnRemaining: the handlers of collected pages: walks and plain laws. Conditions: as each theorem says.
-/
import Derived.Test.YthfihamhkhnckaaDoorG1

namespace Go.Proofs.YthfihamhkhnckaaDoor
open Go.RowKit Go.ChangeShapes Go.Proofs.YthfihamhkhnckaaDoorW.PrintWords

set_option maxHeartbeats 1000000
theorem prefix_calls (a b : List UInt8) (_ha : a.length ≤ 1000000) (_hb : b.length ≤ 1000000) (w : World) :
    Calls Tryd.prog 64 #[.string (bs a), .string (bs b)] w fun e w' => e = .returned (.bool (b.isPrefixOf a)) ∧ w = w' := by
  have hin : Calls Tryd.prog 79 #[.string (bs a), .string (bs b)] w fun e w' => e = .returned (.bool (b.isPrefixOf a)) ∧ w = w' := by
    have h1 := bs_size a
    have h2 := bs_size b
    have hx := bs_extract a 0 b.length
    have t2 := bs_toList b
    by_cases hl : b.length ≤ a.length
    · have hr : ((bs (a.take b.length)).toList == b) = b.isPrefixOf a := by
        rw [bs_toList, Bool.eq_iff_iff, beq_iff_eq, List.isPrefixOf_iff_prefix, List.prefix_iff_eq_take]
        exact eq_comm
      rw [List.drop_zero] at hx
      have hd : decide ((b.length : Int) ≤ (a.length : Int)) = true := by simp; omega
      generalize bs a = A at h1 hx
      generalize bs b = B at h2 t2
      generalize bs (a.take b.length) = T at hx hr
      go_enter Tryd.func79, Tryd.ntmps79
      go_wp2_with fail
      go_ret
      exact ⟨rfl, rfl⟩
    · have hr : b.isPrefixOf a = false := by
        rw [Bool.eq_false_iff, ne_eq, List.isPrefixOf_iff_prefix]
        intro h
        exact hl h.length_le
      have hd : decide ((b.length : Int) ≤ (a.length : Int)) = false := by simp; omega
      generalize bs a = A at h1 hx
      generalize bs b = B at h2 t2
      go_enter Tryd.func79, Tryd.ntmps79
      go_wp2_with fail
      go_ret
      exact ⟨congrArg (fun b => Ending.returned (Value.bool b)) hr.symm, rfl⟩
  have HI := Lib.hid hin
  clear hin
  generalize bs a = A at HI
  generalize bs b = B at HI
  go_enter Tryd.func64, Tryd.ntmps64
  go_wp2_with (go_at_call 79; refine HI.out.mono ?_; rintro e w1 ⟨rfl, rfl⟩)
  go_ret
  exact ⟨rfl, rfl⟩

theorem suffix_calls (a : List UInt8) (h0 : 0 < a.length) (_ha : a.length ≤ 1000000) (w : World) :
    Calls Tryd.prog 44 #[.string (bs a), .string ⟨#[45]⟩] w fun e w' => e = .returned (.bool (a.drop (a.length - 1) == [45])) ∧ w = w' := by
  have hin : Calls Tryd.prog 66 #[.string (bs a), .string ⟨#[45]⟩] w fun e w' => e = .returned (.bool (a.drop (a.length - 1) == [45])) ∧ w = w' := by
    have h1 := bs_size a
    have hx := bs_extract a (a.length - 1) a.length
    have hr : ((bs (a.drop (a.length - 1))).toList == [45]) = (a.drop (a.length - 1) == [45]) := by rw [bs_toList]
    rw [List.take_length] at hx
    have hle : ¬ ((a.length : Int) < 1) := by omega
    have hge : (1 : Int) ≤ (a.length : Int) := by omega
    have hn : ((a.length : Int) - 1).toNat = a.length - 1 := by omega
    generalize bs a = A at h1 hx
    generalize bs (a.drop (a.length - 1)) = T at hx hr
    go_enter Tryd.func66, Tryd.ntmps66
    go_wp2_with fail
    go_ret
    exact ⟨rfl, rfl⟩
  have HI := Lib.hid hin
  clear hin
  generalize bs a = A at HI
  go_enter Tryd.func44, Tryd.ntmps44
  go_wp2_with (go_at_call 66; refine HI.out.mono ?_; rintro e w1 ⟨rfl, rfl⟩)
  go_ret
  exact ⟨rfl, rfl⟩

/-- Pages in order put to a collection, or taken out of it. -/
def procN (neg : Bool) : Nat → Int → List Int → List Int
  | 0, _, l => l
  | k + 1, a, l => proc neg (a + k) (procN neg k a l)
theorem procN_length (neg : Bool) (k : Nat) (a : Int) (l : List Int) : (procN neg k a l).length ≤ l.length + k := by
  induction k with
  | zero => exact Nat.le_refl _
  | succ k ih => have := proc_length neg (a + k) (procN neg k a l); simp only [procN]; omega
/-- What a handler leaves. -/
def Done (B c : Nat) (L : List Int) (w : World) (e : Ending) (w' : World) : Prop := e = .returned .nilIface ∧ Cp B c L w' ∧ Below B w w'

set_option maxRecDepth 100000 in
theorem prefix_l (l : List Int) (neg : Bool) (n : Nat) (hn : n ≤ 1000) (hl : l.length ≤ 900000) (B c : Nat) (w : World) (H : Cp B c l w) (hBw : B ≤ w.heap.size) :
    Calls Tryd.prog 42 #[.string (bs [108]), .bool neg, .int .i64 (n : Int), .pointer (some ⟨c, 0, none⟩)] w (Done B c (procN neg n 1 l) w) := by
  have e1 : ((bs [108]).toList == [108]) = true := by rw [bs_toList]; rfl
  generalize bs [108] = S at e1
  have HC := Lib.hid H
  clear H
  go_enter Tryd.func42, Tryd.ntmps42
  go_wp2_with fail
  go_loopw [9] (fun v wr => ∃ k : Nat, v = .int .i64 (1 + (k : Int)) ∧ k ≤ n ∧ Hid (Cp B c (procN neg k 1 l) wr) ∧ Hid (Below B w wr)) (fun v _ => n - (intOf v - 1).toNat)
  case atStart => exact ⟨0, by simp, by omega, Lib.hid HC.out, Lib.hid (Below.refl _ _)⟩
  case round =>
    obtain ⟨k, rfl, hk, hC, hb⟩ := hrel
    have hsz := hb.out.size
    have hpl := procN_length neg k 1 l
    by_cases hlt : k < n
    · have HP := Lib.hid (process_calls B c (procN neg k 1 l) neg (1 + (k : Int)) (by omega) wr hC.out (by omega))
      go_wp2_with (go_at_call 63; refine HP.out.mono ?_; rintro e w9 ⟨rfl, h1, h2⟩)
      first
        | exact ⟨⟨k + 1, by simp; omega, by omega, Lib.hid h1, Lib.hid (hb.out.trans h2)⟩, by simp [intOf]; omega⟩
        | (go_round
           case rel =>
             (repeat apply Exists.intro)
             refine ⟨?rel2, rfl⟩
             exact ⟨k + 1, by simp; omega, by omega, Lib.hid h1, Lib.hid (hb.out.trans h2)⟩
           case measure => simp [intOf]; omega)
    · have hke : k = n := by omega
      go_wp2_with fail
      exact bodyPost_ret (v := .nilIface) (by simp [results, Tryd.results42, go_sem]) rfl ⟨rfl, by rw [← hke]; exact hC.out, hb.out⟩
/-- What stays when nothing below is changed. -/
theorem Cp.below {B c : Nat} {l : List Int} {w w1 : World} (H : Cp B c l w) (h : Below w.heap.size w w1) : Cp B c l w1 := by
  obtain ⟨hc, v, hb, ho⟩ := H
  exact ⟨hc, v, (h.block c (blk_lt hb)).trans hb, pw_own_below ho h⟩
theorem Num.cons {ds : List UInt8} (h : Num ds) : ∃ c r, ds = c :: r ∧ 49 ≤ c.toNat ∧ c.toNat ≤ 57 := by
  cases ds with
  | nil => exact absurd rfl h.ne
  | cons c r =>
    have h1 := h.head
    have h2 := h.all c (by simp)
    simp only [List.head?_cons, ne_eq, Option.some.injEq] at h1
    have : c.toNat ≠ 48 := fun e => h1 (UInt8.toNat_inj.1 (by rw [e]; rfl))
    have := h2.1
    exact ⟨c, r, rfl, by omega, h2.2⟩
theorem Num.not_l {ds : List UInt8} (h : Num ds) : (ds == [108]) = false ∧ ([108, 45] : List UInt8).isPrefixOf ds = false := by
  obtain ⟨c, r, rfl, h1, h2⟩ := h.cons
  have hc : c ≠ 108 := fun e => by rw [e] at h2; exact absurd h2 (by decide)
  refine ⟨by rw [beq_eq_false_iff_ne]; intro e; injection e with e; exact hc e, ?_⟩
  simp only [List.isPrefixOf, Bool.and_eq_false_iff]
  exact .inl (beq_eq_false_iff_ne.2 (fun e => hc e.symm))

set_option maxRecDepth 100000 in
theorem prefix_lD (l : List Int) (ds : List UInt8) (hds : Num ds) (neg : Bool) (n : Nat) (hn : n ≤ 1000) (hl : l.length ≤ 900000) (B c : Nat) (w : World) (H : Cp B c l w) (hBw : B ≤ w.heap.size) :
    Calls Tryd.prog 42 #[.string (bs (108 :: 45 :: ds)), .bool neg, .int .i64 (n : Int), .pointer (some ⟨c, 0, none⟩)] w (Done B c (procN neg (n - val ds) 1 l) w) := by
  have h4 := hds.four
  have e1 : ((bs (108 :: 45 :: ds)).toList == [108]) = false := by rw [bs_toList]; rfl
  have HPre := fun W => prefix_calls (108 :: 45 :: ds) [108, 45] (by simp; omega) (by decide) W
  rw [show ([108, 45] : List UInt8).isPrefixOf (108 :: 45 :: ds) = true by simp [List.isPrefixOf]] at HPre
  have hsz := bs_size (108 :: 45 :: ds)
  have hx := bs_extract (108 :: 45 :: ds) 2 (ds.length + 2)
  rw [List.take_of_length_le (by simp)] at hx
  have hx' : (bs (108 :: 45 :: ds)).extract 2 (ds.length + 2) = bs ds := hx
  have hsz' : (bs (108 :: 45 :: ds)).size = ds.length + 2 := by rw [hsz]; rfl
  clear hx hsz
  have HA := Lib.hid (fun W => atoi ds hds W)
  have HPre := Lib.hid HPre
  have hD := hds.val_le
  clear hds
  have HC := Lib.hid (fun W (h : Below w.heap.size w W) => Lib.hid (H.below h))
  clear H
  generalize bs (108 :: 45 :: ds) = S at *
  generalize bs ds = T at *
  generalize val ds = D at *
  by_cases hDn : D < n
  · have hlt : ¬ ((n : Int) - (D : Int) < 1) := by omega
    go_enter Tryd.func42, Tryd.ntmps42
    go_wp2_with (first | (go_at_call 64; refine (HPre.out _).mono ?_; rintro e w0 ⟨rfl, rfl⟩) | (go_at_call 65; refine (HA.out _).mono ?_; rintro e w1 ⟨rfl, hb1⟩; have hs1 := hb1.size))
    go_loopw [12] (fun v wr => ∃ k : Nat, v = .int .i64 (1 + (k : Int)) ∧ k ≤ (n - D) ∧ Hid (Cp B c (procN neg k 1 l) wr) ∧ Hid (Below B w wr)) (fun v _ => (n - D) - (intOf v - 1).toNat)
    case atStart => exact ⟨0, by simp, by omega, Lib.hid (HC.out _ hb1).out, Lib.hid (hb1.mono hBw)⟩
    case round =>
      obtain ⟨k, rfl, hk, hC, hb⟩ := hrel
      have hsz := hb.out.size
      have hpl := procN_length neg k 1 l
      by_cases hlt : k < (n - D)
      · have HP := Lib.hid (process_calls B c (procN neg k 1 l) neg (1 + (k : Int)) (by omega) wr hC.out (by omega))
        go_wp2_with (go_at_call 63; refine HP.out.mono ?_; rintro e w9 ⟨rfl, h1, h2⟩)
        first
          | exact ⟨⟨k + 1, by simp; omega, by omega, Lib.hid h1, Lib.hid (hb.out.trans h2)⟩, by simp [intOf]; omega⟩
          | (go_round
             case rel =>
               (repeat apply Exists.intro)
               refine ⟨?rel2, rfl⟩
               exact ⟨k + 1, by simp; omega, by omega, Lib.hid h1, Lib.hid (hb.out.trans h2)⟩
             case measure => simp [intOf]; omega)
      · have hke : k = (n - D) := by omega
        go_wp2_with fail
        exact bodyPost_ret (v := .nilIface) (by simp [results, Tryd.results42, go_sem]) rfl ⟨rfl, by rw [← hke]; exact hC.out, hb.out⟩
  · have hlt : ((n : Int) - (D : Int) < 1) := by omega
    have HZ : procN neg (n - D) 1 l = l := by rw [show n - D = 0 by omega]; rfl
    go_enter Tryd.func42, Tryd.ntmps42
    go_wp2_with (first | (go_at_call 64; refine (HPre.out _).mono ?_; rintro e w0 ⟨rfl, rfl⟩) | (go_at_call 65; refine (HA.out _).mono ?_; rintro e w1 ⟨rfl, hb1⟩; have hs1 := hb1.size))
    exact bodyPost_ret (v := .nilIface) (by simp [results, Tryd.results42, go_sem]) rfl ⟨rfl, by rw [HZ]; exact (HC.out _ hb1).out, hb1.mono hBw⟩
set_option maxRecDepth 100000 in
theorem prefix_D (l : List Int) (ds : List UInt8) (hds : Num ds) (neg : Bool) (n : Nat) (hn : n ≤ 1000) (hl : l.length ≤ 900000) (B c : Nat) (w : World) (H : Cp B c l w) (hBw : B ≤ w.heap.size) :
    Calls Tryd.prog 42 #[.string (bs ds), .bool neg, .int .i64 (n : Int), .pointer (some ⟨c, 0, none⟩)] w (Done B c (procN neg (min (val ds) n) 1 l) w) := by
  have h4 := hds.four
  have e1 : ((bs ds).toList == [108]) = false := by rw [bs_toList]; exact hds.not_l.1
  have HPre := fun W => prefix_calls ds [108, 45] (by omega) (by decide) W
  rw [hds.not_l.2] at HPre
  have HPre := Lib.hid HPre
  have HA := Lib.hid (fun W => atoi ds hds W)
  have hD := hds.val_le
  clear hds
  have HC := Lib.hid (fun W (h : Below w.heap.size w W) => Lib.hid (H.below h))
  clear H
  generalize bs ds = S at *
  generalize val ds = D at *
  by_cases hDn : D ≤ n
  · have hgt : decide (n < D) = false := by simp; omega
    rw [Nat.min_eq_left hDn]
    go_enter Tryd.func42, Tryd.ntmps42
    go_wp2_with (first | (go_at_call 64; refine (HPre.out _).mono ?_; rintro e w0 ⟨rfl, rfl⟩) | (go_at_call 65; refine (HA.out _).mono ?_; rintro e w1 ⟨rfl, hb1⟩; have hs1 := hb1.size))
    go_loopw [15] (fun v wr => ∃ k : Nat, v = .int .i64 (1 + (k : Int)) ∧ k ≤ D ∧ Hid (Cp B c (procN neg k 1 l) wr) ∧ Hid (Below B w wr)) (fun v _ => D - (intOf v - 1).toNat)
    case atStart => exact ⟨0, by simp, by omega, Lib.hid (HC.out _ hb1).out, Lib.hid (hb1.mono hBw)⟩
    case round =>
      obtain ⟨k, rfl, hk, hC, hb⟩ := hrel
      have hsz := hb.out.size
      have hpl := procN_length neg k 1 l
      by_cases hlt : k < D
      · have HP := Lib.hid (process_calls B c (procN neg k 1 l) neg (1 + (k : Int)) (by omega) wr hC.out (by omega))
        go_wp2_with (go_at_call 63; refine HP.out.mono ?_; rintro e w9 ⟨rfl, h1, h2⟩)
        first
          | exact ⟨⟨k + 1, by simp; omega, by omega, Lib.hid h1, Lib.hid (hb.out.trans h2)⟩, by simp [intOf]; omega⟩
          | (go_round
             case rel =>
               (repeat apply Exists.intro)
               refine ⟨?rel2, rfl⟩
               exact ⟨k + 1, by simp; omega, by omega, Lib.hid h1, Lib.hid (hb.out.trans h2)⟩
             case measure => simp [intOf]; omega)
      · have hke : k = D := by omega
        go_wp2_with fail
        exact bodyPost_ret (v := .nilIface) (by simp [results, Tryd.results42, go_sem]) rfl ⟨rfl, by rw [← hke]; exact hC.out, hb.out⟩
  · have hgt : decide (n < D) = true := by simp; omega
    rw [Nat.min_eq_right (by omega)]
    go_enter Tryd.func42, Tryd.ntmps42
    go_wp2_with (first | (go_at_call 64; refine (HPre.out _).mono ?_; rintro e w0 ⟨rfl, rfl⟩) | (go_at_call 65; refine (HA.out _).mono ?_; rintro e w1 ⟨rfl, hb1⟩; have hs1 := hb1.size))
    go_loopw [15] (fun v wr => ∃ k : Nat, v = .int .i64 (1 + (k : Int)) ∧ k ≤ n ∧ Hid (Cp B c (procN neg k 1 l) wr) ∧ Hid (Below B w wr)) (fun v _ => n - (intOf v - 1).toNat)
    case atStart => exact ⟨0, by simp, by omega, Lib.hid (HC.out _ hb1).out, Lib.hid (hb1.mono hBw)⟩
    case round =>
      obtain ⟨k, rfl, hk, hC, hb⟩ := hrel
      have hsz := hb.out.size
      have hpl := procN_length neg k 1 l
      by_cases hlt : k < n
      · have HP := Lib.hid (process_calls B c (procN neg k 1 l) neg (1 + (k : Int)) (by omega) wr hC.out (by omega))
        go_wp2_with (go_at_call 63; refine HP.out.mono ?_; rintro e w9 ⟨rfl, h1, h2⟩)
        first
          | exact ⟨⟨k + 1, by simp; omega, by omega, Lib.hid h1, Lib.hid (hb.out.trans h2)⟩, by simp [intOf]; omega⟩
          | (go_round
             case rel =>
               (repeat apply Exists.intro)
               refine ⟨?rel2, rfl⟩
               exact ⟨k + 1, by simp; omega, by omega, Lib.hid h1, Lib.hid (hb.out.trans h2)⟩
             case measure => simp [intOf]; omega)
      · have hke : k = n := by omega
        go_wp2_with fail
        exact bodyPost_ret (v := .nilIface) (by simp [results, Tryd.results42, go_sem]) rfl ⟨rfl, by rw [← hke]; exact hC.out, hb.out⟩

end Go.Proofs.YthfihamhkhnckaaDoor

namespace Go.Proofs.YthfihamhkhnckaaDoor
open Go.RowKit Go.ChangeShapes Go.Proofs.YthfihamhkhnckaaDoorW.PrintWords

set_option maxHeartbeats 1000000

set_option maxRecDepth 100000 in
theorem suffix_D (l : List Int) (ds : List UInt8) (hds : Num ds) (neg : Bool) (n : Nat) (hn : n ≤ 1000) (hl : l.length ≤ 900000) (B c : Nat) (w : World) (H : Cp B c l w) (hBw : B ≤ w.heap.size) :
    Calls Tryd.prog 45 #[.string (bs ds), .bool neg, .int .i64 (n : Int), .pointer (some ⟨c, 0, none⟩)] w (Done B c (procN neg (n + 1 - val ds) (val ds : Nat) l) w) := by
  have HA := Lib.hid (fun W => atoi ds hds W)
  have hD := hds.val_le
  have h4 := hds.four
  clear hds
  have HC := Lib.hid (fun W (h : Below w.heap.size w W) => Lib.hid (H.below h))
  clear H
  generalize bs ds = S at *
  generalize val ds = D at *
  by_cases hDn : D ≤ n
  · have hgt : decide (n < D) = false := by simp; omega
    go_enter Tryd.func45, Tryd.ntmps45
    go_wp2_with (go_at_call 65; refine (HA.out _).mono ?_; rintro e w1 ⟨rfl, hb1⟩; have hs_hb1 := hb1.size)
    go_loopw [11] (fun v wr => ∃ k : Nat, v = .int .i64 ((D : Int) + (k : Int)) ∧ k ≤ (n + 1 - D) ∧ Hid (Cp B c (procN neg k (D : Int) l) wr) ∧ Hid (Below B w wr)) (fun v _ => (n + 1 - D) - (intOf v - (D : Int)).toNat)
    case atStart => exact ⟨0, by simp, by omega, Lib.hid (HC.out _ hb1).out, Lib.hid (hb1.mono hBw)⟩
    case round =>
      obtain ⟨k, rfl, hk, hC, hb⟩ := hrel
      have hsz := hb.out.size
      have hpl := procN_length neg k (D : Int) l
      by_cases hlt : k < (n + 1 - D)
      · have HP := Lib.hid (process_calls B c (procN neg k (D : Int) l) neg ((D : Int) + (k : Int)) (by omega) wr hC.out (by omega))
        go_wp2_with (go_at_call 63; refine HP.out.mono ?_; rintro e w9 ⟨rfl, h1, h2⟩)
        first
          | exact ⟨⟨k + 1, by simp; omega, by omega, Lib.hid h1, Lib.hid (hb.out.trans h2)⟩, by simp [intOf]; omega⟩
          | (go_round
             case rel =>
               (repeat apply Exists.intro)
               refine ⟨?rel2, rfl⟩
               exact ⟨k + 1, by simp; omega, by omega, Lib.hid h1, Lib.hid (hb.out.trans h2)⟩
             case measure => simp [intOf]; omega)
      · have hke : k = (n + 1 - D) := by omega
        go_wp2_with fail
        exact bodyPost_ret (v := .nilIface) (by simp [results, Tryd.results45, go_sem]) rfl ⟨rfl, by rw [← hke]; exact hC.out, hb.out⟩
  · have hgt : decide (n < D) = true := by simp; omega
    have HZ : procN neg (n + 1 - D) (D : Int) l = l := by rw [show n + 1 - D = 0 by omega]; rfl
    go_enter Tryd.func45, Tryd.ntmps45
    go_wp2_with (go_at_call 65; refine (HA.out _).mono ?_; rintro e w1 ⟨rfl, hb1⟩; have hs_hb1 := hb1.size)
    exact bodyPost_ret (v := .nilIface) (by simp [results, Tryd.results45, go_sem]) rfl ⟨rfl, by rw [HZ]; exact (HC.out _ hb1).out, hb1.mono hBw⟩

set_option maxRecDepth 100000 in
theorem page_l (l : List Int) (neg : Bool) (n : Nat) (_hn : n ≤ 1000) (hl : l.length ≤ 900000) (B c : Nat) (w : World) (H : Cp B c l w) (hBw : B ≤ w.heap.size) :
    Calls Tryd.prog 46 #[.string (bs [108]), .bool neg, .int .i64 (n : Int), .pointer (some ⟨c, 0, none⟩)] w (Done B c (procN neg 1 (n : Int) l) w) := by
  have e1 : ((bs [108]).toList == [108]) = true := by rw [bs_toList]; rfl
  generalize bs [108] = S at e1
  have HP := Lib.hid (process_calls B c l neg (n : Int) (by omega) w H hBw)
  clear H
  go_enter Tryd.func46, Tryd.ntmps46
  go_wp2_with (go_at_call 63; refine HP.out.mono ?_; rintro e w9 ⟨rfl, h1, h2⟩)
  exact bodyPost_ret (v := .nilIface) (by simp [results, Tryd.results46, go_sem]) rfl ⟨rfl, by simpa [procN] using h1, h2⟩
set_option maxRecDepth 100000 in
theorem page_D (l : List Int) (ds : List UInt8) (hds : Num ds) (neg : Bool) (n : Nat) (_hn : n ≤ 1000) (hl : l.length ≤ 900000) (B c : Nat) (w : World) (H : Cp B c l w) (hBw : B ≤ w.heap.size) :
    Calls Tryd.prog 46 #[.string (bs ds), .bool neg, .int .i64 (n : Int), .pointer (some ⟨c, 0, none⟩)] w (Done B c (if val ds ≤ n then procN neg 1 (val ds : Nat) l else l) w) := by
  have h4 := hds.four
  have e1 : ((bs ds).toList == [108]) = false := by rw [bs_toList]; exact hds.not_l.1
  have HPre := fun W => prefix_calls ds [108, 45] (by omega) (by decide) W
  rw [hds.not_l.2] at HPre
  have HPre := Lib.hid HPre
  have HA := Lib.hid (fun W => atoi ds hds W)
  have hD := hds.val_le
  clear hds
  have HC := Lib.hid (fun W (h : Below w.heap.size w W) => Lib.hid (H.below h))
  clear H
  generalize bs ds = S at *
  generalize val ds = D at *
  by_cases hDn : D ≤ n
  · have hgt : decide (n < D) = false := by simp; omega
    rw [if_pos hDn]
    go_enter Tryd.func46, Tryd.ntmps46
    go_wp2_with (first | (go_at_call 64; refine (HPre.out _).mono ?_; rintro e w0 ⟨rfl, rfl⟩) | (go_at_call 65; refine (HA.out _).mono ?_; rintro e w1 ⟨rfl, hb1⟩; have hs_hb1 := hb1.size) | (go_at_call 63; refine (process_calls B c l neg (D : Int) (by omega) w1 (HC.out _ hb1).out (by omega)).mono ?_; rintro e w9 ⟨rfl, h1, h2⟩))
    exact bodyPost_ret (v := .nilIface) (by simp [results, Tryd.results46, go_sem]) rfl ⟨rfl, by simpa [procN] using h1, (hb1.mono hBw).trans h2⟩
  · have hgt : decide (n < D) = true := by simp; omega
    rw [if_neg hDn]
    go_enter Tryd.func46, Tryd.ntmps46
    go_wp2_with (first | (go_at_call 64; refine (HPre.out _).mono ?_; rintro e w0 ⟨rfl, rfl⟩) | (go_at_call 65; refine (HA.out _).mono ?_; rintro e w1 ⟨rfl, hb1⟩; have hs_hb1 := hb1.size))
    exact bodyPost_ret (v := .nilIface) (by simp [results, Tryd.results46, go_sem]) rfl ⟨rfl, (HC.out _ hb1).out, hb1.mono hBw⟩

theorem split_cells (l : List UInt8) (parts : List (List UInt8)) (hp : splitL 45 l = parts) (h0 : parts ≠ []) (hn : l.length ≤ 1000000) (w : World) :
    Calls Tryd.prog 47 #[.string (bs l), .string ⟨#[45]⟩] w fun e w' => ∃ g cap, e = .returned (.slice (some ⟨g, 0, none⟩) parts.length cap) ∧ (∀ i p, parts[i]? = some p → w'.cell? ⟨g, i, none⟩ = some (.string (bs p))) ∧ Below w.heap.size w w' := by
  refine (split_walk 45 l hn w).mono ?_
  rintro e w' ⟨g, cap, rfl, ho, hb⟩
  rw [hp] at ho ⊢
  have := List.length_pos_iff.2 h0
  refine ⟨g, cap, rfl, fun i p hi => ?_, hb⟩
  have h := ho.cells (g := g) rfl i (.string (bs p)) (by simp [strsV, hi])
  rwa [add_plain] at h
theorem Num.no_dash {ds : List UInt8} (h : Num ds) : (45 : UInt8) ∉ ds := fun hm => by
  have := (h.all 45 hm).1
  exact absurd this (by decide)

set_option maxRecDepth 100000 in
theorem page_lD (l : List Int) (ds : List UInt8) (hds : Num ds) (neg : Bool) (n : Nat) (hn : n ≤ 1000) (hl : l.length ≤ 900000) (B c : Nat) (w : World) (H : Cp B c l w) (hBw : B ≤ w.heap.size) :
    Calls Tryd.prog 46 #[.string (bs (108 :: 45 :: ds)), .bool neg, .int .i64 (n : Int), .pointer (some ⟨c, 0, none⟩)] w (Done B c (if val ds < n then procN neg 1 ((n : Int) - (val ds : Nat)) l else l) w) := by
  have h4 := hds.four
  have e1 : ((bs (108 :: 45 :: ds)).toList == [108]) = false := by rw [bs_toList]; rfl
  have HPre := fun W => prefix_calls (108 :: 45 :: ds) [108, 45] (by simp; omega) (by decide) W
  rw [show ([108, 45] : List UInt8).isPrefixOf (108 :: 45 :: ds) = true by simp [List.isPrefixOf]] at HPre
  have HPre := Lib.hid HPre
  have HSuf := fun W => suffix_calls (108 :: 45 :: ds) (by simp) (by simp; omega) W
  have hsuf : (List.drop ((108 :: 45 :: ds).length - 1) (108 :: 45 :: ds) == [45]) = false := by
    rw [beq_eq_false_iff_ne]
    intro h
    have h9 : (45 : UInt8) ∈ (108 :: 45 :: ds).drop ((108 :: 45 :: ds).length - 1) := by rw [h]; simp
    obtain ⟨c, r, rfl, _, _⟩ := hds.cons
    rw [show (108 :: 45 :: c :: r).length - 1 = r.length + 2 by simp] at h9
    exact hds.no_dash (List.mem_of_mem_drop (i := r.length) h9)
  rw [hsuf] at HSuf
  have HSuf := Lib.hid HSuf
  have hx := bs_extract (108 :: 45 :: ds) 2 (ds.length + 2)
  rw [List.take_of_length_le (by simp)] at hx
  have hx' : (bs (108 :: 45 :: ds)).extract 2 (ds.length + 2) = bs ds := hx
  have hsz' : (bs (108 :: 45 :: ds)).size = ds.length + 2 := by rw [bs_size]; rfl
  have hNT : ds.length ≤ 5 := by first | omega | (simp; omega)
  have HS := Lib.hid (fun W => split_cells ds [ds] (splitL_none 45 ds hds.no_dash) (by simp) (by first | omega | (simp; omega)) W)
  have HA := Lib.hid (fun W => atoi ds hds W)
  have hD := hds.val_le
  clear hx hds hsuf
  have HC := Lib.hid (fun W (h : Below w.heap.size w W) => Lib.hid (H.below h))
  clear H
  obtain ⟨U, hU⟩ : ∃ U, bs ds = U := ⟨_, rfl⟩
  rw [hU] at HA
  generalize bs (108 :: 45 :: ds) = S at *
  rw [hU] at hx' HS
  have HU := Lib.hid hU
  clear hU
  generalize ds.length = NT at *
  generalize val ds = D at *
  by_cases hDn : D < n
  · have hlt : ¬ ((n : Int) - (D : Int) < 1) := by omega
    rw [if_pos hDn]
    go_enter Tryd.func46, Tryd.ntmps46
    go_wp2_with (first | (go_at_call 64; refine (HPre.out _).mono ?_; rintro e w0 ⟨rfl, rfl⟩) | (go_at_call 47; with_reducible refine (HS.out _).mono ?_; rintro e w2 ⟨g, cap, rfl, hcl, hb2⟩; have hs2 := hb2.size; have k0 := hcl 0 ds rfl; rw [HU.out] at k0; clear hcl) | (go_at_call 65; refine (HA.out _).mono ?_; rintro e w1 ⟨rfl, hb1⟩; have hs_hb1 := hb1.size) | (go_at_call 44; refine (HSuf.out _).mono ?_; rintro e w8 ⟨rfl, rfl⟩))
    go_loopw [13] (fun v wr => ∃ k : Nat, v = .int .i64 (((n : Int) - (D : Int)) + (k : Int)) ∧ k ≤ 1 ∧ Hid (Cp B c (procN neg k ((n : Int) - (D : Int)) l) wr) ∧ Hid (Below B w wr)) (fun v _ => 1 - (intOf v - ((n : Int) - (D : Int))).toNat)
    case atStart => exact ⟨0, by simp, by omega, Lib.hid (HC.out _ (hb2.trans (hb1.mono hs2))).out, Lib.hid ((hb2.trans (hb1.mono hs2)).mono hBw)⟩
    case round =>
      obtain ⟨k, rfl, hk, hC, hb⟩ := hrel
      have hsz := hb.out.size
      have hpl := procN_length neg k ((n : Int) - (D : Int)) l
      by_cases hlt : k < 1
      · have HP := Lib.hid (process_calls B c (procN neg k ((n : Int) - (D : Int)) l) neg (((n : Int) - (D : Int)) + (k : Int)) (by omega) wr hC.out (by omega))
        go_wp2_with (go_at_call 63; refine HP.out.mono ?_; rintro e w9 ⟨rfl, h1, h2⟩)
        first
          | exact ⟨⟨k + 1, by simp; omega, by omega, Lib.hid h1, Lib.hid (hb.out.trans h2)⟩, by simp [intOf]; omega⟩
          | (go_round
             case rel =>
               (repeat apply Exists.intro)
               refine ⟨?rel2, rfl⟩
               exact ⟨k + 1, by simp; omega, by omega, Lib.hid h1, Lib.hid (hb.out.trans h2)⟩
             case measure => simp [intOf]; omega)
      · have hke : k = 1 := by omega
        go_wp2_with fail
        exact bodyPost_ret (v := .nilIface) (by simp [results, Tryd.results46, go_sem]) rfl ⟨rfl, by rw [← hke]; exact hC.out, hb.out⟩
  · have hlt : ((n : Int) - (D : Int) < 1) := by omega
    rw [if_neg hDn]
    go_enter Tryd.func46, Tryd.ntmps46
    go_wp2_with (first | (go_at_call 64; refine (HPre.out _).mono ?_; rintro e w0 ⟨rfl, rfl⟩) | (go_at_call 47; with_reducible refine (HS.out _).mono ?_; rintro e w2 ⟨g, cap, rfl, hcl, hb2⟩; have hs2 := hb2.size; have k0 := hcl 0 ds rfl; rw [HU.out] at k0; clear hcl) | (go_at_call 65; refine (HA.out _).mono ?_; rintro e w1 ⟨rfl, hb1⟩; have hs_hb1 := hb1.size) | (go_at_call 44; refine (HSuf.out _).mono ?_; rintro e w8 ⟨rfl, rfl⟩))
    exact bodyPost_ret (v := .nilIface) (by simp [results, Tryd.results46, go_sem]) rfl ⟨rfl, (HC.out _ (hb2.trans (hb1.mono hs2))).out, (hb2.trans (hb1.mono hs2)).mono hBw⟩

set_option maxRecDepth 100000 in
theorem page_lDx (l : List Int) (ds : List UInt8) (hds : Num ds) (neg : Bool) (n : Nat) (hn : n ≤ 1000) (hl : l.length ≤ 900000) (B c : Nat) (w : World) (H : Cp B c l w) (hBw : B ≤ w.heap.size) :
    Calls Tryd.prog 46 #[.string (bs (108 :: 45 :: (ds ++ [45]))), .bool neg, .int .i64 (n : Int), .pointer (some ⟨c, 0, none⟩)] w (Done B c (if val ds < n then procN neg ((val ds) + 1) ((n : Int) - (val ds : Nat)) l else l) w) := by
  have h4 := hds.four
  have e1 : ((bs (108 :: 45 :: (ds ++ [45]))).toList == [108]) = false := by rw [bs_toList]; rfl
  have HPre := fun W => prefix_calls (108 :: 45 :: (ds ++ [45])) [108, 45] (by simp; omega) (by decide) W
  rw [show ([108, 45] : List UInt8).isPrefixOf (108 :: 45 :: (ds ++ [45])) = true by simp [List.isPrefixOf]] at HPre
  have HPre := Lib.hid HPre
  have HSuf := fun W => suffix_calls (108 :: 45 :: (ds ++ [45])) (by simp) (by simp; omega) W
  have hsuf : (List.drop ((108 :: 45 :: (ds ++ [45])).length - 1) (108 :: 45 :: (ds ++ [45])) == [45]) = true := by
    rw [show (108 :: 45 :: (ds ++ [45])).length - 1 = ds.length + 2 by simp, show (108 :: 45 :: (ds ++ [45])) = (108 :: 45 :: ds) ++ [45] by simp, List.drop_left' (by simp)]
    rfl
  rw [hsuf] at HSuf
  have HSuf := Lib.hid HSuf
  have hx := bs_extract (108 :: 45 :: (ds ++ [45])) 2 ((ds ++ [45]).length + 2)
  rw [List.take_of_length_le (by simp)] at hx
  have hx' : (bs (108 :: 45 :: (ds ++ [45]))).extract 2 ((ds ++ [45]).length + 2) = bs (ds ++ [45]) := hx
  have hsz' : (bs (108 :: 45 :: (ds ++ [45]))).size = (ds ++ [45]).length + 2 := by rw [bs_size]; rfl
  have hNT : (ds ++ [45]).length ≤ 5 := by first | omega | (simp; omega)
  have HS := Lib.hid (fun W => split_cells (ds ++ [45]) [ds, []] (by rw [splitL_at 45 ds [] hds.no_dash]; rfl) (by simp) (by first | omega | (simp; omega)) W)
  have HA := Lib.hid (fun W => atoi ds hds W)
  have hD := hds.val_le
  clear hx hds hsuf
  have HC := Lib.hid (fun W (h : Below w.heap.size w W) => Lib.hid (H.below h))
  clear H
  obtain ⟨U, hU⟩ : ∃ U, bs ds = U := ⟨_, rfl⟩
  rw [hU] at HA
  generalize bs (108 :: 45 :: (ds ++ [45])) = S at *
  generalize bs (ds ++ [45]) = T at *
  have HU := Lib.hid hU
  clear hU
  generalize (ds ++ [45]).length = NT at *
  generalize val ds = D at *
  by_cases hDn : D < n
  · have hlt : ¬ ((n : Int) - (D : Int) < 1) := by omega
    rw [if_pos hDn]
    go_enter Tryd.func46, Tryd.ntmps46
    go_wp2_with (first | (go_at_call 64; refine (HPre.out _).mono ?_; rintro e w0 ⟨rfl, rfl⟩) | (go_at_call 47; with_reducible refine (HS.out _).mono ?_; rintro e w2 ⟨g, cap, rfl, hcl, hb2⟩; have hs2 := hb2.size; have k0 := hcl 0 ds rfl; rw [HU.out] at k0; clear hcl) | (go_at_call 65; refine (HA.out _).mono ?_; rintro e w1 ⟨rfl, hb1⟩; have hs_hb1 := hb1.size) | (go_at_call 44; refine (HSuf.out _).mono ?_; rintro e w8 ⟨rfl, rfl⟩))
    go_loopw [13] (fun v wr => ∃ k : Nat, v = .int .i64 (((n : Int) - (D : Int)) + (k : Int)) ∧ k ≤ (D + 1) ∧ Hid (Cp B c (procN neg k ((n : Int) - (D : Int)) l) wr) ∧ Hid (Below B w wr)) (fun v _ => (D + 1) - (intOf v - ((n : Int) - (D : Int))).toNat)
    case atStart => exact ⟨0, by simp, by omega, Lib.hid (HC.out _ (hb2.trans (hb1.mono hs2))).out, Lib.hid ((hb2.trans (hb1.mono hs2)).mono hBw)⟩
    case round =>
      obtain ⟨k, rfl, hk, hC, hb⟩ := hrel
      have hsz := hb.out.size
      have hpl := procN_length neg k ((n : Int) - (D : Int)) l
      by_cases hlt : k < (D + 1)
      · have HP := Lib.hid (process_calls B c (procN neg k ((n : Int) - (D : Int)) l) neg (((n : Int) - (D : Int)) + (k : Int)) (by omega) wr hC.out (by omega))
        go_wp2_with (go_at_call 63; refine HP.out.mono ?_; rintro e w9 ⟨rfl, h1, h2⟩)
        first
          | exact ⟨⟨k + 1, by simp; omega, by omega, Lib.hid h1, Lib.hid (hb.out.trans h2)⟩, by simp [intOf]; omega⟩
          | (go_round
             case rel =>
               (repeat apply Exists.intro)
               refine ⟨?rel2, rfl⟩
               exact ⟨k + 1, by simp; omega, by omega, Lib.hid h1, Lib.hid (hb.out.trans h2)⟩
             case measure => simp [intOf]; omega)
      · have hke : k = (D + 1) := by omega
        go_wp2_with fail
        exact bodyPost_ret (v := .nilIface) (by simp [results, Tryd.results46, go_sem]) rfl ⟨rfl, by rw [← hke]; exact hC.out, hb.out⟩
  · have hlt : ((n : Int) - (D : Int) < 1) := by omega
    rw [if_neg hDn]
    go_enter Tryd.func46, Tryd.ntmps46
    go_wp2_with (first | (go_at_call 64; refine (HPre.out _).mono ?_; rintro e w0 ⟨rfl, rfl⟩) | (go_at_call 47; with_reducible refine (HS.out _).mono ?_; rintro e w2 ⟨g, cap, rfl, hcl, hb2⟩; have hs2 := hb2.size; have k0 := hcl 0 ds rfl; rw [HU.out] at k0; clear hcl) | (go_at_call 65; refine (HA.out _).mono ?_; rintro e w1 ⟨rfl, hb1⟩; have hs_hb1 := hb1.size) | (go_at_call 44; refine (HSuf.out _).mono ?_; rintro e w8 ⟨rfl, rfl⟩))
    exact bodyPost_ret (v := .nilIface) (by simp [results, Tryd.results46, go_sem]) rfl ⟨rfl, (HC.out _ (hb2.trans (hb1.mono hs2))).out, (hb2.trans (hb1.mono hs2)).mono hBw⟩

end Go.Proofs.YthfihamhkhnckaaDoor

namespace Go.Proofs.YthfihamhkhnckaaDoor
open Go.RowKit Go.ChangeShapes Go.Proofs.YthfihamhkhnckaaDoorW.PrintWords

set_option maxHeartbeats 1000000

set_option maxRecDepth 100000 in
theorem range_DE (l : List Int) (ds es : List UInt8) (hds : Num ds) (hes : Num es) (neg : Bool) (n : Nat) (hn : n ≤ 1000) (hl : l.length ≤ 900000) (B c : Nat) (w : World) (H : Cp B c l w) (hBw : B ≤ w.heap.size) (g cap : Nat) (c0 : w.cell? ⟨g, 0, none⟩ = some (.string (bs ds))) (c1 : w.cell? ⟨g, 1, none⟩ = some (.string (bs es))) :
    Calls Tryd.prog 48 #[.slice (some ⟨g, 0, none⟩) 2 cap, .int .i64 (n : Int), .bool neg, .pointer (some ⟨c, 0, none⟩)] w (Done B c (procN neg (min (val es) n + 1 - (val ds)) (val ds : Nat) l) w) := by
  have HA := Lib.hid (fun W => atoi ds hds W)
  have hD := hds.val_le
  have hD1 := hds.val_pos
  have HE := Lib.hid (fun W => atoi es hes W)
  have hE := hes.val_le
  have hE1 := hes.val_pos
  have e1 : ((bs es).toList == [108]) = false := by rw [bs_toList]; exact hes.not_l.1
  clear hds hes
  have HC := Lib.hid (fun W (h : Below w.heap.size w W) => Lib.hid (H.below h))
  clear H
  generalize bs ds = U at *
  generalize val ds = D at *
  generalize bs es = V at *
  generalize val es = E at *
  by_cases hc0 : n < D
  · have hgt : decide (n < D) = true := by simp; omega
    have HZ : procN neg (min E n + 1 - D) (D : Int) l = l := by rw [show min E n + 1 - D = 0 by omega]; rfl
    go_enter Tryd.func48, Tryd.ntmps48
    go_wp2_with (first | (go_at_call 65; with_reducible refine (HA.out _).mono ?_; rintro e w1 ⟨rfl, hb1⟩; have hs1 := hb1.size; have k1 := pw_cell_below hb1 c1) | (go_at_call 65; with_reducible refine (HE.out _).mono ?_; rintro e w2 ⟨rfl, hb2⟩; have hs2 := hb2.size; have HBB := Lib.hid (hb1.trans (hb2.mono hs1))))
    exact bodyPost_ret (v := .nilIface) (by simp [results, Tryd.results48, go_sem]) rfl ⟨rfl, by rw [HZ]; exact (HC.out _ hb1).out, hb1.mono hBw⟩
  by_cases hc1 : E < D
  · have hgt : decide (n < D) = false := by simp; omega
    have hlt1 : decide (E < D) = true := by simp; omega
    have HZ : procN neg (min E n + 1 - D) (D : Int) l = l := by rw [show min E n + 1 - D = 0 by omega]; rfl
    go_enter Tryd.func48, Tryd.ntmps48
    go_wp2_with (first | (go_at_call 65; with_reducible refine (HA.out _).mono ?_; rintro e w1 ⟨rfl, hb1⟩; have hs1 := hb1.size; have k1 := pw_cell_below hb1 c1) | (go_at_call 65; with_reducible refine (HE.out _).mono ?_; rintro e w2 ⟨rfl, hb2⟩; have hs2 := hb2.size; have HBB := Lib.hid (hb1.trans (hb2.mono hs1))))
    exact bodyPost_ret (v := .nilIface) (by simp [results, Tryd.results48, go_sem]) rfl ⟨rfl, by rw [HZ]; exact (HC.out _ HBB.out).out, HBB.out.mono hBw⟩
  by_cases hc2 : n < E
  · have hgt : decide (n < D) = false := by simp; omega
    have hlt1 : decide (E < D) = false := by simp; omega
    have hgt2 : decide (n < E) = true := by simp; omega
    rw [show min E n + 1 - D = n + 1 - D by omega]
    go_enter Tryd.func48, Tryd.ntmps48
    go_wp2_with (first | (go_at_call 65; with_reducible refine (HA.out _).mono ?_; rintro e w1 ⟨rfl, hb1⟩; have hs1 := hb1.size; have k1 := pw_cell_below hb1 c1) | (go_at_call 65; with_reducible refine (HE.out _).mono ?_; rintro e w2 ⟨rfl, hb2⟩; have hs2 := hb2.size; have HBB := Lib.hid (hb1.trans (hb2.mono hs1))))
    go_loopw [15] (fun v wr => ∃ k : Nat, v = .int .i64 ((D : Int) + (k : Int)) ∧ k ≤ (n + 1 - D) ∧ Hid (Cp B c (procN neg k (D : Int) l) wr) ∧ Hid (Below B w wr)) (fun v _ => (n + 1 - D) - (intOf v - (D : Int)).toNat)
    case atStart => exact ⟨0, by simp, by omega, Lib.hid (HC.out _ HBB.out).out, Lib.hid (HBB.out.mono hBw)⟩
    case round =>
      obtain ⟨k, rfl, hk, hC, hb⟩ := hrel
      have hsz := hb.out.size
      have hpl := procN_length neg k (D : Int) l
      by_cases hlt : k < (n + 1 - D)
      · have HP := Lib.hid (process_calls B c (procN neg k (D : Int) l) neg ((D : Int) + (k : Int)) (by omega) wr hC.out (by omega))
        go_wp2_with (go_at_call 63; refine HP.out.mono ?_; rintro e w9 ⟨rfl, h1, h2⟩)
        first
          | exact ⟨⟨k + 1, by simp; omega, by omega, Lib.hid h1, Lib.hid (hb.out.trans h2)⟩, by simp [intOf]; omega⟩
          | (go_round
             case rel =>
               (repeat apply Exists.intro)
               refine ⟨?rel2, rfl⟩
               exact ⟨k + 1, by simp; omega, by omega, Lib.hid h1, Lib.hid (hb.out.trans h2)⟩
             case measure => simp [intOf]; omega)
      · have hke : k = (n + 1 - D) := by omega
        go_wp2_with fail
        exact bodyPost_ret (v := .nilIface) (by simp [results, Tryd.results48, go_sem]) rfl ⟨rfl, by rw [← hke]; exact hC.out, hb.out⟩
  have hgt : decide (n < D) = false := by simp; omega
  have hlt1 : decide (E < D) = false := by simp; omega
  have hgt2 : decide (n < E) = false := by simp; omega
  rw [show min E n + 1 - D = E + 1 - D by omega]
  go_enter Tryd.func48, Tryd.ntmps48
  go_wp2_with (first | (go_at_call 65; with_reducible refine (HA.out _).mono ?_; rintro e w1 ⟨rfl, hb1⟩; have hs1 := hb1.size; have k1 := pw_cell_below hb1 c1) | (go_at_call 65; with_reducible refine (HE.out _).mono ?_; rintro e w2 ⟨rfl, hb2⟩; have hs2 := hb2.size; have HBB := Lib.hid (hb1.trans (hb2.mono hs1))))
  go_loopw [15] (fun v wr => ∃ k : Nat, v = .int .i64 ((D : Int) + (k : Int)) ∧ k ≤ (E + 1 - D) ∧ Hid (Cp B c (procN neg k (D : Int) l) wr) ∧ Hid (Below B w wr)) (fun v _ => (E + 1 - D) - (intOf v - (D : Int)).toNat)
  case atStart => exact ⟨0, by simp, by omega, Lib.hid (HC.out _ HBB.out).out, Lib.hid (HBB.out.mono hBw)⟩
  case round =>
    obtain ⟨k, rfl, hk, hC, hb⟩ := hrel
    have hsz := hb.out.size
    have hpl := procN_length neg k (D : Int) l
    by_cases hlt : k < (E + 1 - D)
    · have HP := Lib.hid (process_calls B c (procN neg k (D : Int) l) neg ((D : Int) + (k : Int)) (by omega) wr hC.out (by omega))
      go_wp2_with (go_at_call 63; refine HP.out.mono ?_; rintro e w9 ⟨rfl, h1, h2⟩)
      first
        | exact ⟨⟨k + 1, by simp; omega, by omega, Lib.hid h1, Lib.hid (hb.out.trans h2)⟩, by simp [intOf]; omega⟩
        | (go_round
           case rel =>
             (repeat apply Exists.intro)
             refine ⟨?rel2, rfl⟩
             exact ⟨k + 1, by simp; omega, by omega, Lib.hid h1, Lib.hid (hb.out.trans h2)⟩
           case measure => simp [intOf]; omega)
    · have hke : k = (E + 1 - D) := by omega
      go_wp2_with fail
      exact bodyPost_ret (v := .nilIface) (by simp [results, Tryd.results48, go_sem]) rfl ⟨rfl, by rw [← hke]; exact hC.out, hb.out⟩

set_option maxRecDepth 100000 in
theorem range_Dl (l : List Int) (ds : List UInt8) (hds : Num ds) (neg : Bool) (n : Nat) (hn : n ≤ 1000) (hl : l.length ≤ 900000) (B c : Nat) (w : World) (H : Cp B c l w) (hBw : B ≤ w.heap.size) (g cap : Nat) (c0 : w.cell? ⟨g, 0, none⟩ = some (.string (bs ds))) (c1 : w.cell? ⟨g, 1, none⟩ = some (.string (bs [108]))) :
    Calls Tryd.prog 48 #[.slice (some ⟨g, 0, none⟩) 2 cap, .int .i64 (n : Int), .bool neg, .pointer (some ⟨c, 0, none⟩)] w (Done B c (procN neg (n + 1 - (val ds)) (val ds : Nat) l) w) := by
  have HA := Lib.hid (fun W => atoi ds hds W)
  have hD := hds.val_le
  have hD1 := hds.val_pos
  have e1 : ((bs [108]).toList == [108]) = true := by rw [bs_toList]; rfl
  generalize bs [108] = K at *
  clear hds
  have HC := Lib.hid (fun W (h : Below w.heap.size w W) => Lib.hid (H.below h))
  clear H
  generalize bs ds = U at *
  generalize val ds = D at *
  by_cases hc0 : n < D
  · have hgt : decide (n < D) = true := by simp; omega
    have HZ : procN neg (n + 1 - D) (D : Int) l = l := by rw [show n + 1 - D = 0 by omega]; rfl
    go_enter Tryd.func48, Tryd.ntmps48
    go_wp2_with (go_at_call 65; with_reducible refine (HA.out _).mono ?_; rintro e w1 ⟨rfl, hb1⟩; have hs1 := hb1.size; have k1 := pw_cell_below hb1 c1)
    exact bodyPost_ret (v := .nilIface) (by simp [results, Tryd.results48, go_sem]) rfl ⟨rfl, by rw [HZ]; exact (HC.out _ hb1).out, hb1.mono hBw⟩
  have hgt : decide (n < D) = false := by simp; omega
  rw [show n + 1 - D = n + 1 - D by omega]
  go_enter Tryd.func48, Tryd.ntmps48
  go_wp2_with (go_at_call 65; with_reducible refine (HA.out _).mono ?_; rintro e w1 ⟨rfl, hb1⟩; have hs1 := hb1.size; have k1 := pw_cell_below hb1 c1)
  go_loopw [15] (fun v wr => ∃ k : Nat, v = .int .i64 ((D : Int) + (k : Int)) ∧ k ≤ (n + 1 - D) ∧ Hid (Cp B c (procN neg k (D : Int) l) wr) ∧ Hid (Below B w wr)) (fun v _ => (n + 1 - D) - (intOf v - (D : Int)).toNat)
  case atStart => exact ⟨0, by simp, by omega, Lib.hid (HC.out _ hb1).out, Lib.hid (hb1.mono hBw)⟩
  case round =>
    obtain ⟨k, rfl, hk, hC, hb⟩ := hrel
    have hsz := hb.out.size
    have hpl := procN_length neg k (D : Int) l
    by_cases hlt : k < (n + 1 - D)
    · have HP := Lib.hid (process_calls B c (procN neg k (D : Int) l) neg ((D : Int) + (k : Int)) (by omega) wr hC.out (by omega))
      go_wp2_with (go_at_call 63; refine HP.out.mono ?_; rintro e w9 ⟨rfl, h1, h2⟩)
      first
        | exact ⟨⟨k + 1, by simp; omega, by omega, Lib.hid h1, Lib.hid (hb.out.trans h2)⟩, by simp [intOf]; omega⟩
        | (go_round
           case rel =>
             (repeat apply Exists.intro)
             refine ⟨?rel2, rfl⟩
             exact ⟨k + 1, by simp; omega, by omega, Lib.hid h1, Lib.hid (hb.out.trans h2)⟩
           case measure => simp [intOf]; omega)
    · have hke : k = (n + 1 - D) := by omega
      go_wp2_with fail
      exact bodyPost_ret (v := .nilIface) (by simp [results, Tryd.results48, go_sem]) rfl ⟨rfl, by rw [← hke]; exact hC.out, hb.out⟩

set_option maxRecDepth 100000 in
theorem range_DlE (l : List Int) (ds es : List UInt8) (hds : Num ds) (hes : Num es) (neg : Bool) (n : Nat) (hn : n ≤ 1000) (hl : l.length ≤ 900000) (B c : Nat) (w : World) (H : Cp B c l w) (hBw : B ≤ w.heap.size) (g cap : Nat) (c0 : w.cell? ⟨g, 0, none⟩ = some (.string (bs ds))) (c1 : w.cell? ⟨g, 1, none⟩ = some (.string (bs [108]))) (c2 : w.cell? ⟨g, 2, none⟩ = some (.string (bs es))) :
    Calls Tryd.prog 48 #[.slice (some ⟨g, 0, none⟩) 3 cap, .int .i64 (n : Int), .bool neg, .pointer (some ⟨c, 0, none⟩)] w (Done B c (procN neg (n - (val es) + 1 - (val ds)) (val ds : Nat) l) w) := by
  have HA := Lib.hid (fun W => atoi ds hds W)
  have hD := hds.val_le
  have hD1 := hds.val_pos
  have HE := Lib.hid (fun W => atoi es hes W)
  have hE := hes.val_le
  have hE1 := hes.val_pos
  have e1 : ((bs [108]).toList == [108]) = true := by rw [bs_toList]; rfl
  generalize bs [108] = K at *
  clear hds hes
  have HC := Lib.hid (fun W (h : Below w.heap.size w W) => Lib.hid (H.below h))
  clear H
  generalize bs ds = U at *
  generalize val ds = D at *
  generalize bs es = V at *
  generalize val es = E at *
  by_cases hc0 : n < D
  · have hgt : decide (n < D) = true := by simp; omega
    have HZ : procN neg (n - E + 1 - D) (D : Int) l = l := by rw [show n - E + 1 - D = 0 by omega]; rfl
    go_enter Tryd.func48, Tryd.ntmps48
    go_wp2_with (first | (go_at_call 65; with_reducible refine (HA.out _).mono ?_; rintro e w1 ⟨rfl, hb1⟩; have hs1 := hb1.size; have k1 := pw_cell_below hb1 c1; have k2 := pw_cell_below hb1 c2) | (go_at_call 65; with_reducible refine (HE.out _).mono ?_; rintro e w2 ⟨rfl, hb2⟩; have hs2 := hb2.size; have HBB := Lib.hid (hb1.trans (hb2.mono hs1))))
    exact bodyPost_ret (v := .nilIface) (by simp [results, Tryd.results48, go_sem]) rfl ⟨rfl, by rw [HZ]; exact (HC.out _ hb1).out, hb1.mono hBw⟩
  by_cases hc1 : (n : Int) - (E : Int) < (D : Int)
  · have hgt : decide (n < D) = false := by simp; omega
    have hlt1 : decide ((n : Int) - (E : Int) < (D : Int)) = true := by simp; omega
    have HZ : procN neg (n - E + 1 - D) (D : Int) l = l := by rw [show n - E + 1 - D = 0 by omega]; rfl
    go_enter Tryd.func48, Tryd.ntmps48
    go_wp2_with (first | (go_at_call 65; with_reducible refine (HA.out _).mono ?_; rintro e w1 ⟨rfl, hb1⟩; have hs1 := hb1.size; have k1 := pw_cell_below hb1 c1; have k2 := pw_cell_below hb1 c2) | (go_at_call 65; with_reducible refine (HE.out _).mono ?_; rintro e w2 ⟨rfl, hb2⟩; have hs2 := hb2.size; have HBB := Lib.hid (hb1.trans (hb2.mono hs1))))
    exact bodyPost_ret (v := .nilIface) (by simp [results, Tryd.results48, go_sem]) rfl ⟨rfl, by rw [HZ]; exact (HC.out _ HBB.out).out, HBB.out.mono hBw⟩
  have hgt : decide (n < D) = false := by simp; omega
  have hlt1 : decide ((n : Int) - (E : Int) < (D : Int)) = false := by simp; omega
  have hgt2 : decide ((n : Int) < (n : Int) - (E : Int)) = false := by simp; omega
  have hle3 : E ≤ n := by omega
  rw [show n - E + 1 - D = n - E + 1 - D by omega]
  go_enter Tryd.func48, Tryd.ntmps48
  go_wp2_with (first | (go_at_call 65; with_reducible refine (HA.out _).mono ?_; rintro e w1 ⟨rfl, hb1⟩; have hs1 := hb1.size; have k1 := pw_cell_below hb1 c1; have k2 := pw_cell_below hb1 c2) | (go_at_call 65; with_reducible refine (HE.out _).mono ?_; rintro e w2 ⟨rfl, hb2⟩; have hs2 := hb2.size; have HBB := Lib.hid (hb1.trans (hb2.mono hs1))))
  go_loopw [15] (fun v wr => ∃ k : Nat, v = .int .i64 ((D : Int) + (k : Int)) ∧ k ≤ (n - E + 1 - D) ∧ Hid (Cp B c (procN neg k (D : Int) l) wr) ∧ Hid (Below B w wr)) (fun v _ => (n - E + 1 - D) - (intOf v - (D : Int)).toNat)
  case atStart => exact ⟨0, by simp, by omega, Lib.hid (HC.out _ HBB.out).out, Lib.hid (HBB.out.mono hBw)⟩
  case round =>
    obtain ⟨k, rfl, hk, hC, hb⟩ := hrel
    have hsz := hb.out.size
    have hpl := procN_length neg k (D : Int) l
    by_cases hlt : k < (n - E + 1 - D)
    · have HP := Lib.hid (process_calls B c (procN neg k (D : Int) l) neg ((D : Int) + (k : Int)) (by omega) wr hC.out (by omega))
      go_wp2_with (go_at_call 63; refine HP.out.mono ?_; rintro e w9 ⟨rfl, h1, h2⟩)
      first
        | exact ⟨⟨k + 1, by simp; omega, by omega, Lib.hid h1, Lib.hid (hb.out.trans h2)⟩, by simp [intOf]; omega⟩
        | (go_round
           case rel =>
             (repeat apply Exists.intro)
             refine ⟨?rel2, rfl⟩
             exact ⟨k + 1, by simp; omega, by omega, Lib.hid h1, Lib.hid (hb.out.trans h2)⟩
           case measure => simp [intOf]; omega)
    · have hke : k = (n - E + 1 - D) := by omega
      go_wp2_with fail
      exact bodyPost_ret (v := .nilIface) (by simp [results, Tryd.results48, go_sem]) rfl ⟨rfl, by rw [← hke]; exact hC.out, hb.out⟩

end Go.Proofs.YthfihamhkhnckaaDoor

namespace Go.Proofs.YthfihamhkhnckaaDoor
open Go.RowKit Go.ChangeShapes Go.Proofs.YthfihamhkhnckaaDoorW.PrintWords

set_option maxHeartbeats 1000000

theorem norm_dash (r : List UInt8) (neg : Bool) (n : Nat) (i : Int) (TK : ByteArray) (B c : Nat) (w : World) (_hBw : B ≤ w.heap.size) (L : List Int)
    (HF : Calls Tryd.prog 42 #[.string (bs r), .bool neg, .int .i64 (n : Int), .pointer (some ⟨c, 0, none⟩)] w (Done B c L w)) :
    Calls Tryd.prog 38 #[.int .i64 (n : Int), .int .i64 i, .string TK, .string (bs (45 :: r)), .bool neg, .pointer (some ⟨c, 0, none⟩)] w (Done B c L w) := by
  obtain ⟨S, hS⟩ : ∃ S, S = bs (45 :: r) := ⟨_, rfl⟩
  have hsz : S.size = r.length + 1 := by rw [hS, bs_size]; rfl
  have hx0 : ((S[0]'(by omega)).toNat : Int) = 45 := by subst hS; rfl
  have hx := bs_extract (45 :: r) 1 (r.length + 1)
  rw [List.take_of_length_le (by simp)] at hx
  have hx' : S.extract 1 (r.length + 1) = bs r := by rw [hS]; exact hx
  have HF := Lib.hid HF
  clear hx
  rw [← hS]
  clear hS
  generalize bs r = T at *
  go_enter Tryd.func38, Tryd.ntmps38
  go_wp2_with (go_at_call 42; refine HF.out.mono ?_; rintro e w9 ⟨rfl, h1, h2⟩)
  exact bodyPost_ret (v := .nilIface) (by simp [results, Tryd.results38, go_sem]) rfl ⟨rfl, h1, h2⟩
theorem norm_l (r : List UInt8) (neg : Bool) (n : Nat) (i : Int) (TK : ByteArray) (B c : Nat) (w : World) (_hBw : B ≤ w.heap.size) (L : List Int)
    (HF : Calls Tryd.prog 46 #[.string (bs (108 :: r)), .bool neg, .int .i64 (n : Int), .pointer (some ⟨c, 0, none⟩)] w (Done B c L w)) :
    Calls Tryd.prog 38 #[.int .i64 (n : Int), .int .i64 i, .string TK, .string (bs (108 :: r)), .bool neg, .pointer (some ⟨c, 0, none⟩)] w (Done B c L w) := by
  obtain ⟨S, hS⟩ : ∃ S, S = bs (108 :: r) := ⟨_, rfl⟩
  have hsz : S.size = r.length + 1 := by rw [hS, bs_size]; rfl
  have hx0 : ((S[0]'(by omega)).toNat : Int) = 108 := by subst hS; rfl
  rw [← hS] at HF ⊢
  have HF := Lib.hid HF
  clear hS
  go_enter Tryd.func38, Tryd.ntmps38
  go_wp2_with (go_at_call 46; refine HF.out.mono ?_; rintro e w9 ⟨rfl, h1, h2⟩)
  exact bodyPost_ret (v := .nilIface) (by simp [results, Tryd.results38, go_sem]) rfl ⟨rfl, h1, h2⟩
theorem norm_suffix (ds : List UInt8) (hds : Num ds) (neg : Bool) (n : Nat) (i : Int) (TK : ByteArray) (B c : Nat) (w : World) (_hBw : B ≤ w.heap.size) (L : List Int)
    (HF : Calls Tryd.prog 45 #[.string (bs ds), .bool neg, .int .i64 (n : Int), .pointer (some ⟨c, 0, none⟩)] w (Done B c L w)) :
    Calls Tryd.prog 38 #[.int .i64 (n : Int), .int .i64 i, .string TK, .string (bs (ds ++ [45])), .bool neg, .pointer (some ⟨c, 0, none⟩)] w (Done B c L w) := by
  have h4 := hds.four
  obtain ⟨S, hS⟩ : ∃ S, S = bs (ds ++ [45]) := ⟨_, rfl⟩
  have hsz : S.size = ds.length + 1 := by rw [hS, bs_size]; simp
  obtain ⟨x0, hx0, g0, g1⟩ : ∃ x0 : Int, ((S[0]'(by omega)).toNat : Int) = x0 ∧ 49 ≤ x0 ∧ x0 ≤ 57 := by
    subst hS
    obtain ⟨c, r, rfl, h1, h2⟩ := hds.cons
    exact ⟨c.toNat, rfl, by omega, by omega⟩
  have e1 : (x0 == 45) = false := beq_eq_false_iff_ne.2 (by omega)
  have e2 : (x0 == 108) = false := beq_eq_false_iff_ne.2 (by omega)
  have HSuf := fun W => suffix_calls (ds ++ [45]) (by simp) (by simp; omega) W
  have hsuf : (List.drop ((ds ++ [45]).length - 1) (ds ++ [45]) == [45]) = true := by
    rw [List.drop_left' (by simp)]; rfl
  rw [hsuf, ← hS] at HSuf
  have HSuf := Lib.hid HSuf
  have hx := bs_extract (ds ++ [45]) 0 ds.length
  have hx' : S.extract 0 ds.length = bs ds := by rw [hS, hx, List.take_left' rfl]; rfl
  have HF := Lib.hid HF
  clear hx hsuf hds
  rw [← hS]
  clear hS
  generalize bs ds = T at *
  go_enter Tryd.func38, Tryd.ntmps38
  go_wp2_with (first | (go_at_call 44; refine (HSuf.out _).mono ?_; rintro e w8 ⟨rfl, rfl⟩) | (go_at_call 45; refine HF.out.mono ?_; rintro e w9 ⟨rfl, h1, h2⟩))
  exact bodyPost_ret (v := .nilIface) (by simp [results, Tryd.results38, go_sem]) rfl ⟨rfl, h1, h2⟩

theorem norm_range (v : List UInt8) (hv : v.length ≤ 100) (c0 : UInt8) (r0 : List UInt8) (hv0 : v = c0 :: r0) (hc0 : 49 ≤ c0.toNat ∧ c0.toNat ≤ 57) (hsuf : (List.drop (v.length - 1) v == [45]) = false) (parts : List (List UInt8)) (hp : splitL 45 v = parts) (h2 : 2 ≤ parts.length) (neg : Bool) (n : Nat) (i : Int) (TK : ByteArray) (B c : Nat) (w : World) (hBw : B ≤ w.heap.size) (L : List Int)
    (HF : ∀ g cap W, (∀ i p, parts[i]? = some p → W.cell? ⟨g, i, none⟩ = some (.string (bs p))) → Below w.heap.size w W → Calls Tryd.prog 48 #[.slice (some ⟨g, 0, none⟩) parts.length cap, .int .i64 (n : Int), .bool neg, .pointer (some ⟨c, 0, none⟩)] W (Done B c L W)) :
    Calls Tryd.prog 38 #[.int .i64 (n : Int), .int .i64 i, .string TK, .string (bs v), .bool neg, .pointer (some ⟨c, 0, none⟩)] w (Done B c L w) := by
  have hlen : 0 < v.length := by rw [hv0]; simp
  obtain ⟨S, hS⟩ : ∃ S, S = bs v := ⟨_, rfl⟩
  have hsz : S.size = v.length := by rw [hS, bs_size]
  obtain ⟨x0, hx0, g0, g1⟩ : ∃ x0 : Int, ((S[0]'(by omega)).toNat : Int) = x0 ∧ 49 ≤ x0 ∧ x0 ≤ 57 := by
    subst hS
    subst hv0
    exact ⟨c0.toNat, rfl, by omega, by omega⟩
  have e1 : (x0 == 45) = false := beq_eq_false_iff_ne.2 (by omega)
  have e2 : (x0 == 108) = false := beq_eq_false_iff_ne.2 (by omega)
  have HSuf := fun W => suffix_calls v hlen (by omega) W
  rw [hsuf, ← hS] at HSuf
  have HSuf := Lib.hid HSuf
  have HS := (fun W => split_cells v parts hp (by intro h; rw [h] at h2; simp at h2) (by omega) W)
  rw [← hS] at HS
  have HS := Lib.hid HS
  have HF := Lib.hid HF
  clear hsuf hv0 hp
  rw [← hS]
  clear hS
  generalize hNP : parts.length = NP at *
  go_enter Tryd.func38, Tryd.ntmps38
  go_wp2_with (first | (go_at_call 44; refine (HSuf.out _).mono ?_; rintro e w8 ⟨rfl, rfl⟩) | (go_at_call 47; with_reducible refine (HS.out _).mono ?_; rintro e w2 ⟨g, cap, rfl, hcl, hb2⟩; have hs2 := hb2.size; have HF2 := Lib.hid (HF.out g cap w2 hcl hb2); clear hcl) | (go_at_call 48; refine HF2.out.mono ?_; rintro e w9 ⟨rfl, h1, h2⟩))
  exact bodyPost_ret (v := .nilIface) (by simp [results, Tryd.results38, go_sem]) rfl ⟨rfl, h1, (hb2.mono hBw).trans h2⟩

theorem norm_page (v : List UInt8) (hv : v.length ≤ 100) (c0 : UInt8) (r0 : List UInt8) (hv0 : v = c0 :: r0) (hc0 : 49 ≤ c0.toNat ∧ c0.toNat ≤ 57) (hsuf : (List.drop (v.length - 1) v == [45]) = false) (hp : splitL 45 v = [v]) (neg : Bool) (n : Nat) (i : Int) (TK : ByteArray) (B c : Nat) (w : World) (hBw : B ≤ w.heap.size) (L : List Int)
    (HF : ∀ W, Below w.heap.size w W → Calls Tryd.prog 46 #[.string (bs v), .bool neg, .int .i64 (n : Int), .pointer (some ⟨c, 0, none⟩)] W (Done B c L W)) :
    Calls Tryd.prog 38 #[.int .i64 (n : Int), .int .i64 i, .string TK, .string (bs v), .bool neg, .pointer (some ⟨c, 0, none⟩)] w (Done B c L w) := by
  have hlen : 0 < v.length := by rw [hv0]; simp
  obtain ⟨S, hS⟩ : ∃ S, S = bs v := ⟨_, rfl⟩
  have hsz : S.size = v.length := by rw [hS, bs_size]
  obtain ⟨x0, hx0, g0, g1⟩ : ∃ x0 : Int, ((S[0]'(by omega)).toNat : Int) = x0 ∧ 49 ≤ x0 ∧ x0 ≤ 57 := by
    subst hS
    subst hv0
    exact ⟨c0.toNat, rfl, by omega, by omega⟩
  have e1 : (x0 == 45) = false := beq_eq_false_iff_ne.2 (by omega)
  have e2 : (x0 == 108) = false := beq_eq_false_iff_ne.2 (by omega)
  have HSuf := fun W => suffix_calls v hlen (by omega) W
  rw [hsuf, ← hS] at HSuf
  have HSuf := Lib.hid HSuf
  have HS := (fun W => split_cells v [v] hp (by simp) (by omega) W)
  rw [← hS] at HS
  have HS := Lib.hid HS
  rw [← hS] at HF
  have HF := Lib.hid HF
  have HU := Lib.hid hS.symm
  clear hsuf hv0 hp
  rw [← hS]
  clear hS
  
  go_enter Tryd.func38, Tryd.ntmps38
  go_wp2_with (first | (go_at_call 44; refine (HSuf.out _).mono ?_; rintro e w8 ⟨rfl, rfl⟩) | (go_at_call 47; with_reducible refine (HS.out _).mono ?_; rintro e w2 ⟨g, cap, rfl, hcl, hb2⟩; have hs2 := hb2.size; have k0 := hcl 0 v rfl; have HF2 := Lib.hid (HF.out w2 hb2); rw [HU.out] at k0; clear hcl) | (go_at_call 46; refine HF2.out.mono ?_; rintro e w9 ⟨rfl, h1, h2⟩))
  exact bodyPost_ret (v := .nilIface) (by simp [results, Tryd.results38, go_sem]) rfl ⟨rfl, h1, (hb2.mono hBw).trans h2⟩

end Go.Proofs.YthfihamhkhnckaaDoor

namespace Go.Proofs.YthfihamhkhnckaaDoor
open Go.RowKit Go.ChangeShapes Go.Proofs.YthfihamhkhnckaaDoorW.PrintWords

set_option maxHeartbeats 1000000

/-- Every second page put to a collection. -/
def evN : Nat → Int → List Int → List Int
  | 0, _, l => l
  | k + 1, a, l => evN k a l ++ [a + 2 * (k : Int)]
theorem evN_length (k : Nat) (a : Int) (l : List Int) : (evN k a l).length = l.length + k := by
  induction k with
  | zero => rfl
  | succ k ih => simp only [evN, List.length_append, ih, List.length_singleton]; omega

set_option maxRecDepth 100000 in
theorem even_calls (l : List Int) (n : Nat) (hn : n ≤ 1000) (hl : l.length ≤ 900000) (B c : Nat) (w : World) (H : Cp B c l w) (hBw : B ≤ w.heap.size) :
    Calls Tryd.prog 35 #[.pointer (some ⟨c, 0, none⟩), .int .i64 (n : Int)] w fun e w' => e = .returned (.tuple #[]) ∧ Cp B c (evN (n / 2) 2 l) w' ∧ Below B w w' := by
  have HC := Lib.hid H
  clear H
  go_enter Tryd.func35, Tryd.ntmps35
  go_wp2_with fail
  go_loopw [4] (fun v wr => ∃ k : Nat, v = .int .i64 (2 + 2 * (k : Int)) ∧ k ≤ n / 2 ∧ Hid (Cp B c (evN k 2 l) wr) ∧ Hid (Below B w wr)) (fun v _ => n + 2 - (intOf v).toNat)
  case atStart => exact ⟨0, by simp, by omega, HC, Lib.hid (Below.refl _ _)⟩
  case round =>
    obtain ⟨k, rfl, hk, hC, hb⟩ := hrel
    have hsz := hb.out.size
    have hel := evN_length k 2 l
    by_cases hlt : k < n / 2
    · have hle : 2 + 2 * (k : Int) ≤ (n : Int) := by omega
      have hp0 : 0 ≤ 2 + 2 * (k : Int) := by omega
      have hle2 : (2 + 2 * (k : Int)).toNat ≤ n := by omega
      obtain ⟨hc, v, hbk, ho⟩ := hC.out
      have hevs : evN (k + 1) 2 l = evN k 2 l ++ [2 + 2 * (k : Int)] := rfl
      have hlen : (evN k 2 l).length ≤ 950000 := by omega
      clear hC hel
      generalize evN k 2 l = l' at *
      generalize hp : 2 + 2 * (k : Int) = p at *
      have c1 := blk_cell hbk 0
      obtain ⟨A, cv, rfl⟩ := own_slice ho
      have Ho := Lib.hid ho
      have Hb := Lib.hid hbk
      have HP2 := Lib.hid hp
      clear ho hbk hp
      go_wp2_with (at_builtin; refine print_append_num (w0 := wr) B rfl (.tmp 13) (.tmp 15) 24 3 .i64 8 rfl Tryd.underlying24 info_int (by decide) _ l' p rfl rfl Ho.out (Below.refl _ _) (by omega) (by omega) ?_; intro v1 w1 ho3 hb3 hg _
                   have hb2 := blk_grown Hb.out hg (fun h => by obtain ⟨cs, h2⟩ := own_typed Ho.out c h.symm; exact blk_ne Hb.out h2 (by decide) rfl)
                   have c2 := blk_cell hb2 0
                   have f2 := blk_frozen hb2 0
                   have HF := Lib.hid (Cp.put hc hb2 ho3)
                   have HB2 := fun u => Lib.hid (hb.out.trans (hb3.setCell (p := ⟨c, 0, none⟩) hc u))
                   obtain ⟨A2, cv2, rfl⟩ := own_slice ho3
                   clear hb2 hb3 hg ho3)
      exact ⟨⟨k + 1, by have := HP2.out; simp; omega, by omega, by rw [hevs]; exact Lib.hid (by simpa using HF.out), HB2 _⟩, by have := HP2.out; simp [intOf]; omega⟩
    · have hke : k = n / 2 := by omega
      have hgt : ¬ (2 + 2 * (k : Int) ≤ (n : Int)) := by omega
      go_wp2_with fail
      go_end0
      exact ⟨rfl, by rw [← hke]; exact hC.out, hb.out⟩

set_option maxRecDepth 100000 in
theorem odd_calls (l : List Int) (n : Nat) (hn : n ≤ 1000) (hl : l.length ≤ 900000) (B c : Nat) (w : World) (H : Cp B c l w) (hBw : B ≤ w.heap.size) :
    Calls Tryd.prog 36 #[.pointer (some ⟨c, 0, none⟩), .int .i64 (n : Int)] w fun e w' => e = .returned (.tuple #[]) ∧ Cp B c (evN ((n + 1) / 2) 1 l) w' ∧ Below B w w' := by
  have HC := Lib.hid H
  clear H
  go_enter Tryd.func36, Tryd.ntmps36
  go_wp2_with fail
  go_loopw [4] (fun v wr => ∃ k : Nat, v = .int .i64 (1 + 2 * (k : Int)) ∧ k ≤ (n + 1) / 2 ∧ Hid (Cp B c (evN k 1 l) wr) ∧ Hid (Below B w wr)) (fun v _ => n + 2 - (intOf v).toNat)
  case atStart => exact ⟨0, by simp, by omega, HC, Lib.hid (Below.refl _ _)⟩
  case round =>
    obtain ⟨k, rfl, hk, hC, hb⟩ := hrel
    have hsz := hb.out.size
    have hel := evN_length k 1 l
    by_cases hlt : k < (n + 1) / 2
    · have hle : 1 + 2 * (k : Int) ≤ (n : Int) := by omega
      have hp0 : 0 ≤ 1 + 2 * (k : Int) := by omega
      have hle2 : (1 + 2 * (k : Int)).toNat ≤ n := by omega
      obtain ⟨hc, v, hbk, ho⟩ := hC.out
      have hevs : evN (k + 1) 1 l = evN k 1 l ++ [1 + 2 * (k : Int)] := rfl
      have hlen : (evN k 1 l).length ≤ 950000 := by omega
      clear hC hel
      generalize evN k 1 l = l' at *
      generalize hp : 1 + 2 * (k : Int) = p at *
      have c1 := blk_cell hbk 0
      obtain ⟨A, cv, rfl⟩ := own_slice ho
      have Ho := Lib.hid ho
      have Hb := Lib.hid hbk
      have HP2 := Lib.hid hp
      clear ho hbk hp
      go_wp2_with (at_builtin; refine print_append_num (w0 := wr) B rfl (.tmp 13) (.tmp 15) 24 3 .i64 8 rfl Tryd.underlying24 info_int (by decide) _ l' p rfl rfl Ho.out (Below.refl _ _) (by omega) (by omega) ?_; intro v1 w1 ho3 hb3 hg _
                   have hb2 := blk_grown Hb.out hg (fun h => by obtain ⟨cs, h2⟩ := own_typed Ho.out c h.symm; exact blk_ne Hb.out h2 (by decide) rfl)
                   have c2 := blk_cell hb2 0
                   have f2 := blk_frozen hb2 0
                   have HF := Lib.hid (Cp.put hc hb2 ho3)
                   have HB2 := fun u => Lib.hid (hb.out.trans (hb3.setCell (p := ⟨c, 0, none⟩) hc u))
                   obtain ⟨A2, cv2, rfl⟩ := own_slice ho3
                   clear hb2 hb3 hg ho3)
      exact ⟨⟨k + 1, by have := HP2.out; simp; omega, by omega, by rw [hevs]; exact Lib.hid (by simpa using HF.out), HB2 _⟩, by have := HP2.out; simp [intOf]; omega⟩
    · have hke : k = (n + 1) / 2 := by omega
      have hgt : ¬ (1 + 2 * (k : Int) ≤ (n : Int)) := by omega
      go_wp2_with fail
      go_end0
      exact ⟨rfl, by rw [← hke]; exact hC.out, hb.out⟩

set_option maxRecDepth 100000 in
theorem handle_even (i : Int) (l : List Int) (n : Nat) (hn : n ≤ 1000) (hl : l.length ≤ 900000) (B c : Nat) (w : World) (H : Cp B c l w) (hBw : B ≤ w.heap.size) :
    Calls Tryd.prog 31 #[.int .i64 (n : Int), .int .i64 i, .string (bs [101, 118, 101, 110]), .pointer (some ⟨c, 0, none⟩)] w (Done B c (evN (n / 2) 2 l) w) := by
  have e0 : ((bs [101, 118, 101, 110]).toList == []) = false := by rw [bs_toList]; rfl
  have e1 : ((bs [101, 118, 101, 110]).toList == [101, 118, 101, 110]) = true := by rw [bs_toList]; rfl
  have e2 : ((bs [101, 118, 101, 110]).toList == [111, 100, 100]) = false := by rw [bs_toList]; rfl
  generalize bs [101, 118, 101, 110] = S at *
  have HF := Lib.hid (even_calls l n hn hl B c w H hBw)
  clear H
  go_enter Tryd.func31, Tryd.ntmps31
  go_wp2_with (go_at_call 35; refine HF.out.mono ?_; rintro e w9 ⟨rfl, h1, h2⟩)
  exact bodyPost_ret (v := .nilIface) (by simp [results, Tryd.results31, go_sem]) rfl ⟨rfl, h1, h2⟩

set_option maxRecDepth 100000 in
theorem handle_odd (i : Int) (l : List Int) (n : Nat) (hn : n ≤ 1000) (hl : l.length ≤ 900000) (B c : Nat) (w : World) (H : Cp B c l w) (hBw : B ≤ w.heap.size) :
    Calls Tryd.prog 31 #[.int .i64 (n : Int), .int .i64 i, .string (bs [111, 100, 100]), .pointer (some ⟨c, 0, none⟩)] w (Done B c (evN ((n + 1) / 2) 1 l) w) := by
  have e0 : ((bs [111, 100, 100]).toList == []) = false := by rw [bs_toList]; rfl
  have e1 : ((bs [111, 100, 100]).toList == [101, 118, 101, 110]) = false := by rw [bs_toList]; rfl
  have e2 : ((bs [111, 100, 100]).toList == [111, 100, 100]) = true := by rw [bs_toList]; rfl
  generalize bs [111, 100, 100] = S at *
  have HF := Lib.hid (odd_calls l n hn hl B c w H hBw)
  clear H
  go_enter Tryd.func31, Tryd.ntmps31
  go_wp2_with (go_at_call 36; refine HF.out.mono ?_; rintro e w9 ⟨rfl, h1, h2⟩)
  exact bodyPost_ret (v := .nilIface) (by simp [results, Tryd.results31, go_sem]) rfl ⟨rfl, h1, h2⟩

theorem negation_no (x : Int) (h1 : (x == 33) = false) (h2 : (x == 110) = false) (w : World) : Calls Tryd.prog 37 #[.int .u8 x] w fun e w' => e = .returned (.bool false) ∧ w = w' := by
  go_enter Tryd.func37, Tryd.ntmps37
  go_wp2_with fail
  go_ret
  exact ⟨rfl, rfl⟩
theorem negation_yes (x : Int) (h : x = 33 ∨ x = 110) (w : World) : Calls Tryd.prog 37 #[.int .u8 x] w fun e w' => e = .returned (.bool true) ∧ w = w' := by
  rcases h with rfl | rfl
  · go_enter Tryd.func37, Tryd.ntmps37
    go_wp2_with fail
    go_ret
    exact ⟨rfl, rfl⟩
  · go_enter Tryd.func37, Tryd.ntmps37
    go_wp2_with fail
    go_ret
    exact ⟨rfl, rfl⟩

theorem handle_plain (x : UInt8) (r : List UInt8) (hx : x ≠ 33 ∧ x ≠ 110) (hn : (x :: r) ≠ [101, 118, 101, 110] ∧ (x :: r) ≠ [111, 100, 100]) (n : Nat) (i : Int) (B c : Nat) (w : World) (L : List Int)
    (HF : Calls Tryd.prog 38 #[.int .i64 (n : Int), .int .i64 i, .string (bs (x :: r)), .string (bs (x :: r)), .bool false, .pointer (some ⟨c, 0, none⟩)] w (Done B c L w)) :
    Calls Tryd.prog 31 #[.int .i64 (n : Int), .int .i64 i, .string (bs (x :: r)), .pointer (some ⟨c, 0, none⟩)] w (Done B c L w) := by
  have e0 : ((bs (x :: r)).toList == []) = false := by rw [bs_toList]; rfl
  have e1 : ((bs (x :: r)).toList == [101, 118, 101, 110]) = false := by rw [bs_toList]; exact beq_eq_false_iff_ne.2 hn.1
  have e2 : ((bs (x :: r)).toList == [111, 100, 100]) = false := by rw [bs_toList]; exact beq_eq_false_iff_ne.2 hn.2
  obtain ⟨S, hS⟩ : ∃ S, S = bs (x :: r) := ⟨_, rfl⟩
  have hsz : S.size = r.length + 1 := by rw [hS, bs_size]; rfl
  obtain ⟨x0, hx0, g0, g1⟩ : ∃ x0 : Int, ((S[0]'(by omega)).toNat : Int) = x0 ∧ (x0 == 33) = false ∧ (x0 == 110) = false := by
    subst hS
    refine ⟨(x.toNat : Int), rfl, ?_, ?_⟩
    · rw [beq_eq_false_iff_ne]; intro e; exact hx.1 (UInt8.toNat_inj.1 (Int.ofNat.inj e))
    · rw [beq_eq_false_iff_ne]; intro e; exact hx.2 (UInt8.toNat_inj.1 (Int.ofNat.inj e))
  rw [← hS] at HF e0 e1 e2 ⊢
  have HN := Lib.hid (fun W => negation_no x0 g0 g1 W)
  have HF := Lib.hid HF
  clear hS hx hn
  go_enter Tryd.func31, Tryd.ntmps31
  go_wp2_with (first | (go_at_call 37; refine (HN.out _).mono ?_; rintro e w8 ⟨rfl, rfl⟩) | (go_at_call 38; refine HF.out.mono ?_; rintro e w9 ⟨rfl, h1, h2⟩))
  exact bodyPost_ret (v := .nilIface) (by simp [results, Tryd.results31, go_sem]) rfl ⟨rfl, h1, h2⟩
theorem handle_away (x : UInt8) (r : List UInt8) (hr : r ≠ []) (hx : x = 33 ∨ x = 110) (n : Nat) (i : Int) (B c : Nat) (w : World) (L : List Int)
    (HF : Calls Tryd.prog 38 #[.int .i64 (n : Int), .int .i64 i, .string (bs (x :: r)), .string (bs r), .bool true, .pointer (some ⟨c, 0, none⟩)] w (Done B c L w)) :
    Calls Tryd.prog 31 #[.int .i64 (n : Int), .int .i64 i, .string (bs (x :: r)), .pointer (some ⟨c, 0, none⟩)] w (Done B c L w) := by
  have hne : (x ≠ 101 ∧ x ≠ 111) := by rcases hx with rfl | rfl <;> decide
  have e0 : ((bs (x :: r)).toList == []) = false := by rw [bs_toList]; rfl
  have e1 : ((bs (x :: r)).toList == [101, 118, 101, 110]) = false := by rw [bs_toList]; exact beq_eq_false_iff_ne.2 (fun h => hne.1 (by injection h))
  have e2 : ((bs (x :: r)).toList == [111, 100, 100]) = false := by rw [bs_toList]; exact beq_eq_false_iff_ne.2 (fun h => hne.2 (by injection h))
  have e3 : ((bs r).toList == []) = false := by rw [bs_toList]; exact beq_eq_false_iff_ne.2 hr
  obtain ⟨S, hS⟩ : ∃ S, S = bs (x :: r) := ⟨_, rfl⟩
  have hsz : S.size = r.length + 1 := by rw [hS, bs_size]; rfl
  obtain ⟨x0, hx0, g0⟩ : ∃ x0 : Int, ((S[0]'(by omega)).toNat : Int) = x0 ∧ (x0 = 33 ∨ x0 = 110) := by
    subst hS
    exact ⟨(x.toNat : Int), rfl, by rcases hx with rfl | rfl <;> simp⟩
  have hxx := bs_extract (x :: r) 1 (r.length + 1)
  rw [List.take_of_length_le (by simp)] at hxx
  have hx' : S.extract 1 (r.length + 1) = bs r := by rw [hS]; exact hxx
  rw [← hS] at HF e0 e1 e2 ⊢
  have HN := Lib.hid (fun W => negation_yes x0 g0 W)
  have HF := Lib.hid HF
  clear hS hx hne hxx g0 hr
  generalize bs r = T at *
  go_enter Tryd.func31, Tryd.ntmps31
  go_wp2_with (first | (go_at_call 37; refine (HN.out _).mono ?_; rintro e w8 ⟨rfl, rfl⟩) | (go_at_call 38; refine HF.out.mono ?_; rintro e w9 ⟨rfl, h1, h2⟩))
  exact bodyPost_ret (v := .nilIface) (by simp [results, Tryd.results31, go_sem]) rfl ⟨rfl, h1, h2⟩

end Go.Proofs.YthfihamhkhnckaaDoor
