/-
FnCollected: pages put one after another; the token's prefixes: the walks. Conditions: a collection in memory, pages of at most 1000.
-/
import Derived.Test.YthfihamhkhnckaaDoorK2
namespace Go.Proofs.YthfihamhkhnckaaDoor
open Go.RowKit Go.ChangeShapes Go.Proofs.YthfihamhkhnckaaDoorW.PrintWords

set_option maxHeartbeats 1000000
theorem prefix_calls (a b : List UInt8) (_ha : a.length ≤ 1000000) (_hb : b.length ≤ 1000000) (w : World) :
    Calls Tryd.prog 64 #[.string (bs a), .string (bs b)] w fun e w' => e = .returned (.bool (b.isPrefixOf a)) ∧ w = w' := by
  have hin : Calls Tryd.prog 79 #[.string (bs a), .string (bs b)] w fun e w' => e = .returned (.bool (b.isPrefixOf a)) ∧ w = w' := by
    have h1 := bs_size a
    have h2 := bs_size b
    have hx := bs_extract a 0 b.length
    have t2 := bs_toList b
    by_cases hl : b.length ≤ a.length
    · have hr : ((bs (a.take b.length)).toList == b) = b.isPrefixOf a := by
        rw [bs_toList, Bool.eq_iff_iff, beq_iff_eq, List.isPrefixOf_iff_prefix, List.prefix_iff_eq_take]
        exact eq_comm
      rw [List.drop_zero] at hx
      have hd : decide ((b.length : Int) ≤ (a.length : Int)) = true := by simp; omega
      generalize bs a = A at h1 hx
      generalize bs b = B at h2 t2
      generalize bs (a.take b.length) = T at hx hr
      go_enter Tryd.func79, Tryd.ntmps79
      go_wp2_with fail
      go_ret
      exact ⟨rfl, rfl⟩
    · have hr : b.isPrefixOf a = false := by
        rw [Bool.eq_false_iff, ne_eq, List.isPrefixOf_iff_prefix]
        intro h
        exact hl h.length_le
      have hd : decide ((b.length : Int) ≤ (a.length : Int)) = false := by simp; omega
      generalize bs a = A at h1 hx
      generalize bs b = B at h2 t2
      go_enter Tryd.func79, Tryd.ntmps79
      go_wp2_with fail
      go_ret
      exact ⟨congrArg (fun b => Ending.returned (Value.bool b)) hr.symm, rfl⟩
  have HI := Lib.hid hin
  clear hin
  generalize bs a = A at HI
  generalize bs b = B at HI
  go_enter Tryd.func64, Tryd.ntmps64
  go_wp2_with (go_at_call 79; refine HI.out.mono ?_; rintro e w1 ⟨rfl, rfl⟩)
  go_ret
  exact ⟨rfl, rfl⟩

theorem suffix_calls (a : List UInt8) (h0 : 0 < a.length) (_ha : a.length ≤ 1000000) (w : World) :
    Calls Tryd.prog 44 #[.string (bs a), .string ⟨#[45]⟩] w fun e w' => e = .returned (.bool (a.drop (a.length - 1) == [45])) ∧ w = w' := by
  have hin : Calls Tryd.prog 66 #[.string (bs a), .string ⟨#[45]⟩] w fun e w' => e = .returned (.bool (a.drop (a.length - 1) == [45])) ∧ w = w' := by
    have h1 := bs_size a
    have hx := bs_extract a (a.length - 1) a.length
    have hr : ((bs (a.drop (a.length - 1))).toList == [45]) = (a.drop (a.length - 1) == [45]) := by rw [bs_toList]
    rw [List.take_length] at hx
    have hle : ¬ ((a.length : Int) < 1) := by omega
    have hge : (1 : Int) ≤ (a.length : Int) := by omega
    have hn : ((a.length : Int) - 1).toNat = a.length - 1 := by omega
    generalize bs a = A at h1 hx
    generalize bs (a.drop (a.length - 1)) = T at hx hr
    go_enter Tryd.func66, Tryd.ntmps66
    go_wp2_with fail
    go_ret
    exact ⟨rfl, rfl⟩
  have HI := Lib.hid hin
  clear hin
  generalize bs a = A at HI
  go_enter Tryd.func44, Tryd.ntmps44
  go_wp2_with (go_at_call 66; refine HI.out.mono ?_; rintro e w1 ⟨rfl, rfl⟩)
  go_ret
  exact ⟨rfl, rfl⟩

/-- Pages in order put to a collection, or taken out of it. -/
def procN (neg : Bool) : Nat → Int → List Int → List Int
  | 0, _, l => l
  | k + 1, a, l => proc neg (a + k) (procN neg k a l)
theorem procN_length (neg : Bool) (k : Nat) (a : Int) (l : List Int) : (procN neg k a l).length ≤ l.length + k := by
  induction k with
  | zero => exact Nat.le_refl _
  | succ k ih => have := proc_length neg (a + k) (procN neg k a l); simp only [procN]; omega
/-- What a handler leaves. -/
def Done (B c : Nat) (L : List Int) (w : World) (e : Ending) (w' : World) : Prop := e = .returned .nilIface ∧ Cp B c L w' ∧ Below B w w'

set_option maxRecDepth 100000 in
theorem prefix_l (l : List Int) (neg : Bool) (n : Nat) (hn : n ≤ 1000) (hl : l.length ≤ 900000) (B c : Nat) (w : World) (H : Cp B c l w) (hBw : B ≤ w.heap.size) :
    Calls Tryd.prog 42 #[.string (bs [108]), .bool neg, .int .i64 (n : Int), .pointer (some ⟨c, 0, none⟩)] w (Done B c (procN neg n 1 l) w) := by
  have e1 : ((bs [108]).toList == [108]) = true := by rw [bs_toList]; rfl
  generalize bs [108] = S at e1
  have HC := Lib.hid H
  clear H
  go_enter Tryd.func42, Tryd.ntmps42
  go_wp2_with fail
  go_loopw [9] (fun v wr => ∃ k : Nat, v = .int .i64 (1 + (k : Int)) ∧ k ≤ n ∧ Hid (Cp B c (procN neg k 1 l) wr) ∧ Hid (Below B w wr)) (fun v _ => n - (intOf v - 1).toNat)
  case atStart => exact ⟨0, by simp, by omega, Lib.hid HC.out, Lib.hid (Below.refl _ _)⟩
  case round =>
    obtain ⟨k, rfl, hk, hC, hb⟩ := hrel
    have hsz := hb.out.size
    have hpl := procN_length neg k 1 l
    by_cases hlt : k < n
    · have HP := Lib.hid (process_calls B c (procN neg k 1 l) neg (1 + (k : Int)) (by omega) wr hC.out (by omega))
      go_wp2_with (go_at_call 63; refine HP.out.mono ?_; rintro e w9 ⟨rfl, h1, h2⟩)
      first
        | exact ⟨⟨k + 1, by simp; omega, by omega, Lib.hid h1, Lib.hid (hb.out.trans h2)⟩, by simp [intOf]; omega⟩
        | (go_round
           case rel =>
             (repeat apply Exists.intro)
             refine ⟨?rel2, rfl⟩
             exact ⟨k + 1, by simp; omega, by omega, Lib.hid h1, Lib.hid (hb.out.trans h2)⟩
           case measure => simp [intOf]; omega)
    · have hke : k = n := by omega
      go_wp2_with fail
      exact bodyPost_ret (v := .nilIface) (by simp [results, Tryd.results42, go_sem]) rfl ⟨rfl, by rw [← hke]; exact hC.out, hb.out⟩
/-- What stays when nothing below is changed. -/
theorem Cp.below {B c : Nat} {l : List Int} {w w1 : World} (H : Cp B c l w) (h : Below w.heap.size w w1) : Cp B c l w1 := by
  obtain ⟨hc, v, hb, ho⟩ := H
  exact ⟨hc, v, (h.block c (blk_lt hb)).trans hb, pw_own_below ho h⟩
theorem Num.cons {ds : List UInt8} (h : Num ds) : ∃ c r, ds = c :: r ∧ 49 ≤ c.toNat ∧ c.toNat ≤ 57 := by
  cases ds with
  | nil => exact absurd rfl h.ne
  | cons c r =>
    have h1 := h.head
    have h2 := h.all c (by simp)
    simp only [List.head?_cons, ne_eq, Option.some.injEq] at h1
    have : c.toNat ≠ 48 := fun e => h1 (UInt8.toNat_inj.1 (by rw [e]; rfl))
    have := h2.1
    exact ⟨c, r, rfl, by omega, h2.2⟩
theorem Num.not_l {ds : List UInt8} (h : Num ds) : (ds == [108]) = false ∧ ([108, 45] : List UInt8).isPrefixOf ds = false := by
  obtain ⟨c, r, rfl, h1, h2⟩ := h.cons
  have hc : c ≠ 108 := fun e => by rw [e] at h2; exact absurd h2 (by decide)
  refine ⟨by rw [beq_eq_false_iff_ne]; intro e; injection e with e; exact hc e, ?_⟩
  simp only [List.isPrefixOf, Bool.and_eq_false_iff]
  exact .inl (beq_eq_false_iff_ne.2 (fun e => hc e.symm))

set_option maxRecDepth 100000 in
theorem prefix_lD (l : List Int) (ds : List UInt8) (hds : Num ds) (neg : Bool) (n : Nat) (hn : n ≤ 1000) (hl : l.length ≤ 900000) (B c : Nat) (w : World) (H : Cp B c l w) (hBw : B ≤ w.heap.size) :
    Calls Tryd.prog 42 #[.string (bs (108 :: 45 :: ds)), .bool neg, .int .i64 (n : Int), .pointer (some ⟨c, 0, none⟩)] w (Done B c (procN neg (n - val ds) 1 l) w) := by
  have h4 := hds.four
  have e1 : ((bs (108 :: 45 :: ds)).toList == [108]) = false := by rw [bs_toList]; rfl
  have HPre := fun W => prefix_calls (108 :: 45 :: ds) [108, 45] (by simp; omega) (by decide) W
  rw [show ([108, 45] : List UInt8).isPrefixOf (108 :: 45 :: ds) = true by simp [List.isPrefixOf]] at HPre
  have hsz := bs_size (108 :: 45 :: ds)
  have hx := bs_extract (108 :: 45 :: ds) 2 (ds.length + 2)
  rw [List.take_of_length_le (by simp)] at hx
  have hx' : (bs (108 :: 45 :: ds)).extract 2 (ds.length + 2) = bs ds := hx
  have hsz' : (bs (108 :: 45 :: ds)).size = ds.length + 2 := by rw [hsz]; rfl
  clear hx hsz
  have HA := Lib.hid (fun W => atoi ds hds W)
  have HPre := Lib.hid HPre
  have hD := hds.val_le
  clear hds
  have HC := Lib.hid (fun W (h : Below w.heap.size w W) => Lib.hid (H.below h))
  clear H
  generalize bs (108 :: 45 :: ds) = S at *
  generalize bs ds = T at *
  generalize val ds = D at *
  by_cases hDn : D < n
  · have hlt : ¬ ((n : Int) - (D : Int) < 1) := by omega
    go_enter Tryd.func42, Tryd.ntmps42
    go_wp2_with (first | (go_at_call 64; refine (HPre.out _).mono ?_; rintro e w0 ⟨rfl, rfl⟩) | (go_at_call 65; refine (HA.out _).mono ?_; rintro e w1 ⟨rfl, hb1⟩; have hs1 := hb1.size))
    go_loopw [12] (fun v wr => ∃ k : Nat, v = .int .i64 (1 + (k : Int)) ∧ k ≤ (n - D) ∧ Hid (Cp B c (procN neg k 1 l) wr) ∧ Hid (Below B w wr)) (fun v _ => (n - D) - (intOf v - 1).toNat)
    case atStart => exact ⟨0, by simp, by omega, Lib.hid (HC.out _ hb1).out, Lib.hid (hb1.mono hBw)⟩
    case round =>
      obtain ⟨k, rfl, hk, hC, hb⟩ := hrel
      have hsz := hb.out.size
      have hpl := procN_length neg k 1 l
      by_cases hlt : k < (n - D)
      · have HP := Lib.hid (process_calls B c (procN neg k 1 l) neg (1 + (k : Int)) (by omega) wr hC.out (by omega))
        go_wp2_with (go_at_call 63; refine HP.out.mono ?_; rintro e w9 ⟨rfl, h1, h2⟩)
        first
          | exact ⟨⟨k + 1, by simp; omega, by omega, Lib.hid h1, Lib.hid (hb.out.trans h2)⟩, by simp [intOf]; omega⟩
          | (go_round
             case rel =>
               (repeat apply Exists.intro)
               refine ⟨?rel2, rfl⟩
               exact ⟨k + 1, by simp; omega, by omega, Lib.hid h1, Lib.hid (hb.out.trans h2)⟩
             case measure => simp [intOf]; omega)
      · have hke : k = (n - D) := by omega
        go_wp2_with fail
        exact bodyPost_ret (v := .nilIface) (by simp [results, Tryd.results42, go_sem]) rfl ⟨rfl, by rw [← hke]; exact hC.out, hb.out⟩
  · have hlt : ((n : Int) - (D : Int) < 1) := by omega
    have HZ : procN neg (n - D) 1 l = l := by rw [show n - D = 0 by omega]; rfl
    go_enter Tryd.func42, Tryd.ntmps42
    go_wp2_with (first | (go_at_call 64; refine (HPre.out _).mono ?_; rintro e w0 ⟨rfl, rfl⟩) | (go_at_call 65; refine (HA.out _).mono ?_; rintro e w1 ⟨rfl, hb1⟩; have hs1 := hb1.size))
    exact bodyPost_ret (v := .nilIface) (by simp [results, Tryd.results42, go_sem]) rfl ⟨rfl, by rw [HZ]; exact (HC.out _ hb1).out, hb1.mono hBw⟩
set_option maxRecDepth 100000 in
theorem prefix_D (l : List Int) (ds : List UInt8) (hds : Num ds) (neg : Bool) (n : Nat) (hn : n ≤ 1000) (hl : l.length ≤ 900000) (B c : Nat) (w : World) (H : Cp B c l w) (hBw : B ≤ w.heap.size) :
    Calls Tryd.prog 42 #[.string (bs ds), .bool neg, .int .i64 (n : Int), .pointer (some ⟨c, 0, none⟩)] w (Done B c (procN neg (min (val ds) n) 1 l) w) := by
  have h4 := hds.four
  have e1 : ((bs ds).toList == [108]) = false := by rw [bs_toList]; exact hds.not_l.1
  have HPre := fun W => prefix_calls ds [108, 45] (by omega) (by decide) W
  rw [hds.not_l.2] at HPre
  have HPre := Lib.hid HPre
  have HA := Lib.hid (fun W => atoi ds hds W)
  have hD := hds.val_le
  clear hds
  have HC := Lib.hid (fun W (h : Below w.heap.size w W) => Lib.hid (H.below h))
  clear H
  generalize bs ds = S at *
  generalize val ds = D at *
  by_cases hDn : D ≤ n
  · have hgt : decide (n < D) = false := by simp; omega
    rw [Nat.min_eq_left hDn]
    go_enter Tryd.func42, Tryd.ntmps42
    go_wp2_with (first | (go_at_call 64; refine (HPre.out _).mono ?_; rintro e w0 ⟨rfl, rfl⟩) | (go_at_call 65; refine (HA.out _).mono ?_; rintro e w1 ⟨rfl, hb1⟩; have hs1 := hb1.size))
    go_loopw [15] (fun v wr => ∃ k : Nat, v = .int .i64 (1 + (k : Int)) ∧ k ≤ D ∧ Hid (Cp B c (procN neg k 1 l) wr) ∧ Hid (Below B w wr)) (fun v _ => D - (intOf v - 1).toNat)
    case atStart => exact ⟨0, by simp, by omega, Lib.hid (HC.out _ hb1).out, Lib.hid (hb1.mono hBw)⟩
    case round =>
      obtain ⟨k, rfl, hk, hC, hb⟩ := hrel
      have hsz := hb.out.size
      have hpl := procN_length neg k 1 l
      by_cases hlt : k < D
      · have HP := Lib.hid (process_calls B c (procN neg k 1 l) neg (1 + (k : Int)) (by omega) wr hC.out (by omega))
        go_wp2_with (go_at_call 63; refine HP.out.mono ?_; rintro e w9 ⟨rfl, h1, h2⟩)
        first
          | exact ⟨⟨k + 1, by simp; omega, by omega, Lib.hid h1, Lib.hid (hb.out.trans h2)⟩, by simp [intOf]; omega⟩
          | (go_round
             case rel =>
               (repeat apply Exists.intro)
               refine ⟨?rel2, rfl⟩
               exact ⟨k + 1, by simp; omega, by omega, Lib.hid h1, Lib.hid (hb.out.trans h2)⟩
             case measure => simp [intOf]; omega)
      · have hke : k = D := by omega
        go_wp2_with fail
        exact bodyPost_ret (v := .nilIface) (by simp [results, Tryd.results42, go_sem]) rfl ⟨rfl, by rw [← hke]; exact hC.out, hb.out⟩
  · have hgt : decide (n < D) = true := by simp; omega
    rw [Nat.min_eq_right (by omega)]
    go_enter Tryd.func42, Tryd.ntmps42
    go_wp2_with (first | (go_at_call 64; refine (HPre.out _).mono ?_; rintro e w0 ⟨rfl, rfl⟩) | (go_at_call 65; refine (HA.out _).mono ?_; rintro e w1 ⟨rfl, hb1⟩; have hs1 := hb1.size))
    go_loopw [15] (fun v wr => ∃ k : Nat, v = .int .i64 (1 + (k : Int)) ∧ k ≤ n ∧ Hid (Cp B c (procN neg k 1 l) wr) ∧ Hid (Below B w wr)) (fun v _ => n - (intOf v - 1).toNat)
    case atStart => exact ⟨0, by simp, by omega, Lib.hid (HC.out _ hb1).out, Lib.hid (hb1.mono hBw)⟩
    case round =>
      obtain ⟨k, rfl, hk, hC, hb⟩ := hrel
      have hsz := hb.out.size
      have hpl := procN_length neg k 1 l
      by_cases hlt : k < n
      · have HP := Lib.hid (process_calls B c (procN neg k 1 l) neg (1 + (k : Int)) (by omega) wr hC.out (by omega))
        go_wp2_with (go_at_call 63; refine HP.out.mono ?_; rintro e w9 ⟨rfl, h1, h2⟩)
        first
          | exact ⟨⟨k + 1, by simp; omega, by omega, Lib.hid h1, Lib.hid (hb.out.trans h2)⟩, by simp [intOf]; omega⟩
          | (go_round
             case rel =>
               (repeat apply Exists.intro)
               refine ⟨?rel2, rfl⟩
               exact ⟨k + 1, by simp; omega, by omega, Lib.hid h1, Lib.hid (hb.out.trans h2)⟩
             case measure => simp [intOf]; omega)
      · have hke : k = n := by omega
        go_wp2_with fail
        exact bodyPost_ret (v := .nilIface) (by simp [results, Tryd.results42, go_sem]) rfl ⟨rfl, by rw [← hke]; exact hC.out, hb.out⟩

end Go.Proofs.YthfihamhkhnckaaDoor
