/-
FnCollected, FnSelected, FnRemaining: the handlers of selected pages, a map: walks and plain laws. Conditions: as each theorem says.
-/
import Derived.Test.YthfihamhkhnckaaDoorG1
import Derived.Maps.OwnSet
import Derived.Test.YthfihamhkhnckaaDoorG2

namespace Go.Proofs.YthfihamhkhnckaaDoor.Sel
open Go.RowKit Go.ChangeShapes Go.Maps Go.Proofs.YthfihamhkhnckaaDoorW.PrintWords

/-- How many stores there were at most; what is said of each page. -/
structure St where
  n : Nat
  f : Int → Option Bool
theorem keyed : Keyed Tryd.prog 3 := int_keyed Tryd.underlying3
theorem zeroE (w : World) : (zeroValue 4).run Tryd.prog w = .ok (.bool false) w := by kernel_rfl
/-- A map's reading says what f says. -/
structure Rd (D : DataW Unit) (f : Int → Option Bool) : Prop where
  isMap : IsMap D
  has : ∀ p : Int, Maps.has D (.int .i64 p) = (f p).isSome
  at_ : ∀ (p : Int) (b : Bool), f p = some b → ∀ z, D.atKey (.int .i64 p) z = .lit (.bool b)
theorem Rd.put {D : DataW Unit} {f : Int → Option Bool} (h : Rd D f) (p : Int) (b : Bool) : Rd (D.put (.int .i64 p) (.lit (.bool b))) (fun q => if q = p then some b else f q) := by
  refine ⟨h.isMap.put _ _, fun q => ?_, fun q c hq z => ?_⟩
  · by_cases hqp : q = p
    · subst hqp
      simp only [if_pos]
      exact has_put_same (k := .int .i64 q) h.isMap trivial _
    · have hne : (Lit.int .i64 q) ≠ .int .i64 p := fun e => hqp (by injection e)
      simp only [if_neg hqp]
      rw [has_put_other hne]
      exact h.has q
  · by_cases hqp : q = p
    · subst hqp
      simp only [if_pos, Option.some.injEq] at hq
      subst hq
      exact atKey_put_same (k := .int .i64 q) h.isMap trivial _ _
    · have hne : (Lit.int .i64 q) ≠ .int .i64 p := fun e => hqp (by injection e)
      simp only [if_neg hqp] at hq
      rw [atKey_put_other hne]
      exact h.at_ q c hq z
/-- A block is the map that says l. -/
def Cp (B c : Nat) (l : St) (w : World) : Prop := B ≤ c ∧ ∃ D, w.ownsMap Tryd.prog 3 (plainElem (H := Unit) Tryd.prog 4) c l.n D ∧ Rd D l.f
def proc (neg : Bool) (p : Int) (l : St) : St := ⟨l.n + 1, fun q => if q = p then some (!neg) else l.f q⟩
def procN (neg : Bool) : Nat → Int → St → St
  | 0, _, l => l
  | k + 1, a, l => proc neg (a + k) (procN neg k a l)
theorem procN_length (neg : Bool) (k : Nat) (a : Int) (l : St) : (procN neg k a l).n ≤ l.n + k := by
  induction k with
  | zero => exact Nat.le_refl _
  | succ k ih => simp only [procN, proc]; omega
theorem Cp.below {B c : Nat} {l : St} {w w1 : World} (H : Cp B c l w) (h : Below w.heap.size w w1) : Cp B c l w1 := by
  obtain ⟨hc, D, ho, hr⟩ := H
  obtain ⟨es, clock, hb, F, hs, hD⟩ := ho
  exact ⟨hc, D, ⟨es, clock, (h.block c (Array.getElem?_eq_some_iff.1 hb).1).trans hb, F, hs, hD⟩, hr⟩
/-- What a handler leaves. -/
def Done (B c : Nat) (L : St) (w : World) (e : Ending) (w' : World) : Prop := e = .returned .nilIface ∧ Cp B c L w' ∧ Below B w w'
section
variable {ops : Array Oper} {rest : List Oper} {o : Oper} {a : Act} {Q : Exit → Act → World → Prop}
set_option maxRecDepth 100000 in
/-- A page's word stored. -/
theorem upd {T : TypeId} (hT : Tryd.prog.underlying T = some (.map 3 4)) (w : World) (hg : o.guard = none) (m x v : Operand) (hop : o.op = Op.mapUpdate T m x v) {B c : Nat} {l : St} (hC : Cp B c l w) (hBw : B ≤ w.heap.size) (hl : l.n ≤ 2000000) (p : Int) (hp : (Lit.int .i64 p).wf = true) (neg : Bool)
    (hm : a.eval m = .map (some c)) (hx : a.eval x = .int .i64 p) (hv : a.eval v = .bool (!neg)) (hK : ∀ w', Cp B c (proc neg p l) w' → Below B w w' → wpList Tryd.prog ops Q rest (a.put o.dst undef) w') :
    wpList Tryd.prog ops Q (o :: rest) a w := by
  obtain ⟨hc, D, ho, hr⟩ := hC
  refine wpList_mapUpdate_own w hg m x v T hop 3 4 keyed hT (plainElem (H := Unit) Tryd.prog 4) c l.n D hm ho (by unfold maxLen; omega) _ _ (.int .i64 p) hx hv (keyOf_int_mk Tryd.underlying3 hp) (.lit (.bool (!neg))) [] (plainElem_bool Tryd.underlying4 _) ?_
  intro w' h1 h2
  exact hK w' ⟨hc, _, h1, hr.put p _⟩ (pw_below_grown (Below.refl _ _) (some c) hBw h2 (fun k hk => by cases hk; exact hc))
set_option maxRecDepth 100000 in
theorem pe_inv {v : Value} {z : DataW Unit × List MemPlace} (h : (plainElem (H := Unit) Tryd.prog 4) v = some z) : ∃ b, v = .bool b ∧ z = (.lit (.bool b), []) := by
  unfold plainElem at h
  rw [Tryd.underlying4] at h
  cases v <;> simp at h
  exact ⟨_, rfl, h.symm⟩
set_option maxRecDepth 100000 in
/-- A page's word looked up, with 'ok'. -/
theorem look_ok {T : TypeId} (hT : Tryd.prog.underlying T = some (.map 3 4)) (w : World) (hg : o.guard = none) (m x : Operand) (hop : o.op = Op.lookup T m x true) {B c : Nat} {l : St} (hC : Cp B c l w) (p : Int) (hp : (Lit.int .i64 p).wf = true)
    (hm : a.eval m = .map (some c)) (hx : a.eval x = .int .i64 p) (hK : wpList Tryd.prog ops Q rest (a.put o.dst (.tuple #[.bool ((l.f p).getD false), .bool (l.f p).isSome])) w) :
    wpList Tryd.prog ops Q (o :: rest) a w := by
  obtain ⟨hc, D, ho, hr⟩ := hC
  refine wpList_lookup_own_ok w hg m x T hop 3 4 keyed hT (plainElem (H := Unit) Tryd.prog 4) (zeroE _) (.lit (.bool false)) [] (plainElem_bool Tryd.underlying4 _) c l.n D hm ho _ (.int .i64 p) hx (keyOf_int_mk Tryd.underlying3 hp) (fun v ps hv => ?_)
  obtain ⟨b, rfl, hb⟩ := pe_inv hv
  have h1 := congrArg Prod.fst hb
  rw [hr.has]
  cases hf : l.f p with
  | none =>
    have h2 := hr.has p
    rw [hf] at h2
    have h3 : D.atKey (.int .i64 p) (.lit (.bool false)) = .lit (.bool false) := atKey_of_not_has h2 _
    rw [h3] at h1
    rw [hf] at hK
    have : b = false := by injection h1 with h1; injection h1 with h1; exact h1.symm
    rw [this]
    exact hK
  | some d =>
    have h3 := hr.at_ p d hf (.lit (.bool false))
    rw [h3] at h1
    rw [hf] at hK
    have : b = d := by injection h1 with h1; injection h1 with h1; exact h1.symm
    rw [this]
    exact hK
end
end Go.Proofs.YthfihamhkhnckaaDoor.Sel

namespace Go.Proofs.YthfihamhkhnckaaDoor.Sel
open Go.Maps Go.RowKit Go.ChangeShapes Go.Proofs.YthfihamhkhnckaaDoorW.PrintWords

set_option maxHeartbeats 1000000
set_option maxRecDepth 100000 in
theorem prefix_l (l : St) (neg : Bool) (n : Nat) (hn : n ≤ 1000) (hl : l.n ≤ 900000) (B c : Nat) (w : World) (H : Cp B c l w) (hBw : B ≤ w.heap.size) :
    Calls Tryd.prog 68 #[.string (bs [108]), .bool neg, .int .i64 (n : Int), .map (some c)] w (Done B c (procN neg n 1 l) w) := by
  have e1 : ((bs [108]).toList == [108]) = true := by rw [bs_toList]; rfl
  generalize bs [108] = S at e1
  have HC := Lib.hid H
  clear H
  go_enter Tryd.func68, Tryd.ntmps68
  go_wp2_with fail
  go_loopw [9] (fun v wr => ∃ k : Nat, v = .int .i64 (1 + (k : Int)) ∧ k ≤ n ∧ Hid (Cp B c (procN neg k 1 l) wr) ∧ Hid (Below B w wr)) (fun v _ => n - (intOf v - 1).toNat)
  case atStart => exact ⟨0, by simp, by omega, Lib.hid HC.out, Lib.hid (Below.refl _ _)⟩
  case round =>
    obtain ⟨k, rfl, hk, hC, hb⟩ := hrel
    have hsz := hb.out.size
    have hpl := procN_length neg k 1 l
    by_cases hlt : k < n
    · have hB9 : B ≤ wr.heap.size := by omega
      have hl9 := Nat.le_trans hpl (show l.n + k ≤ 2000000 by omega)
      go_wp2_with (at_mapUpdate; refine upd Tryd.underlying44 _ rfl (.tmp 23) (.tmp 24) (.tmp 26) rfl hC.out hB9 hl9 (1 + (k : Int)) (WalkArith.wf_i64 (by omega)) neg rfl rfl rfl ?_; intro w9 h1 h2)
      first
        | exact ⟨⟨k + 1, by simp; omega, by omega, Lib.hid h1, Lib.hid (hb.out.trans h2)⟩, by simp [intOf]; omega⟩
        | (go_round
           case rel =>
             (repeat apply Exists.intro)
             refine ⟨?rel2, rfl⟩
             exact ⟨k + 1, by simp; omega, by omega, Lib.hid h1, Lib.hid (hb.out.trans h2)⟩
           case measure => simp [intOf]; omega)
    · have hke : k = n := by omega
      go_wp2_with fail
      exact bodyPost_ret (v := .nilIface) (by simp [results, Tryd.results68, go_sem]) rfl ⟨rfl, by rw [← hke]; exact hC.out, hb.out⟩
set_option maxRecDepth 100000 in
theorem prefix_lD (l : St) (ds : List UInt8) (hds : Num ds) (neg : Bool) (n : Nat) (hn : n ≤ 1000) (hl : l.n ≤ 900000) (B c : Nat) (w : World) (H : Cp B c l w) (hBw : B ≤ w.heap.size) :
    Calls Tryd.prog 68 #[.string (bs (108 :: 45 :: ds)), .bool neg, .int .i64 (n : Int), .map (some c)] w (Done B c (procN neg (n - val ds) 1 l) w) := by
  have h4 := hds.four
  have e1 : ((bs (108 :: 45 :: ds)).toList == [108]) = false := by rw [bs_toList]; rfl
  have HPre := fun W => prefix_calls (108 :: 45 :: ds) [108, 45] (by simp; omega) (by decide) W
  rw [show ([108, 45] : List UInt8).isPrefixOf (108 :: 45 :: ds) = true by simp [List.isPrefixOf]] at HPre
  have hsz := bs_size (108 :: 45 :: ds)
  have hx := bs_extract (108 :: 45 :: ds) 2 (ds.length + 2)
  rw [List.take_of_length_le (by simp)] at hx
  have hx' : (bs (108 :: 45 :: ds)).extract 2 (ds.length + 2) = bs ds := hx
  have hsz' : (bs (108 :: 45 :: ds)).size = ds.length + 2 := by rw [hsz]; rfl
  clear hx hsz
  have HA := Lib.hid (fun W => atoi ds hds W)
  have HPre := Lib.hid HPre
  have hD := hds.val_le
  clear hds
  have HC := Lib.hid (fun W (h : Below w.heap.size w W) => Lib.hid (H.below h))
  clear H
  generalize bs (108 :: 45 :: ds) = S at *
  generalize bs ds = T at *
  generalize val ds = D at *
  by_cases hDn : D < n
  · have hlt : ¬ ((n : Int) - (D : Int) < 1) := by omega
    go_enter Tryd.func68, Tryd.ntmps68
    go_wp2_with (first | (go_at_call 64; refine (HPre.out _).mono ?_; rintro e w0 ⟨rfl, rfl⟩) | (go_at_call 65; refine (HA.out _).mono ?_; rintro e w1 ⟨rfl, hb1⟩; have hs1 := hb1.size))
    go_loopw [12] (fun v wr => ∃ k : Nat, v = .int .i64 (1 + (k : Int)) ∧ k ≤ (n - D) ∧ Hid (Cp B c (procN neg k 1 l) wr) ∧ Hid (Below B w wr)) (fun v _ => (n - D) - (intOf v - 1).toNat)
    case atStart => exact ⟨0, by simp, by omega, Lib.hid (HC.out _ hb1).out, Lib.hid (hb1.mono hBw)⟩
    case round =>
      obtain ⟨k, rfl, hk, hC, hb⟩ := hrel
      have hsz := hb.out.size
      have hpl := procN_length neg k 1 l
      by_cases hlt : k < (n - D)
      · have hB9 : B ≤ wr.heap.size := by omega
        have hl9 := Nat.le_trans hpl (show l.n + k ≤ 2000000 by omega)
        go_wp2_with (at_mapUpdate; refine upd Tryd.underlying44 _ rfl (.tmp 49) (.tmp 50) (.tmp 52) rfl hC.out hB9 hl9 (1 + (k : Int)) (WalkArith.wf_i64 (by omega)) neg rfl rfl rfl ?_; intro w9 h1 h2)
        first
          | exact ⟨⟨k + 1, by simp; omega, by omega, Lib.hid h1, Lib.hid (hb.out.trans h2)⟩, by simp [intOf]; omega⟩
          | (go_round
             case rel =>
               (repeat apply Exists.intro)
               refine ⟨?rel2, rfl⟩
               exact ⟨k + 1, by simp; omega, by omega, Lib.hid h1, Lib.hid (hb.out.trans h2)⟩
             case measure => simp [intOf]; omega)
      · have hke : k = (n - D) := by omega
        go_wp2_with fail
        exact bodyPost_ret (v := .nilIface) (by simp [results, Tryd.results68, go_sem]) rfl ⟨rfl, by rw [← hke]; exact hC.out, hb.out⟩
  · have hlt : ((n : Int) - (D : Int) < 1) := by omega
    have HZ : procN neg (n - D) 1 l = l := by rw [show n - D = 0 by omega]; rfl
    go_enter Tryd.func68, Tryd.ntmps68
    go_wp2_with (first | (go_at_call 64; refine (HPre.out _).mono ?_; rintro e w0 ⟨rfl, rfl⟩) | (go_at_call 65; refine (HA.out _).mono ?_; rintro e w1 ⟨rfl, hb1⟩; have hs1 := hb1.size))
    exact bodyPost_ret (v := .nilIface) (by simp [results, Tryd.results68, go_sem]) rfl ⟨rfl, by rw [HZ]; exact (HC.out _ hb1).out, hb1.mono hBw⟩
set_option maxRecDepth 100000 in
theorem prefix_D (l : St) (ds : List UInt8) (hds : Num ds) (neg : Bool) (n : Nat) (hn : n ≤ 1000) (hl : l.n ≤ 900000) (B c : Nat) (w : World) (H : Cp B c l w) (hBw : B ≤ w.heap.size) :
    Calls Tryd.prog 68 #[.string (bs ds), .bool neg, .int .i64 (n : Int), .map (some c)] w (Done B c (procN neg (min (val ds) n) 1 l) w) := by
  have h4 := hds.four
  have e1 : ((bs ds).toList == [108]) = false := by rw [bs_toList]; exact hds.not_l.1
  have HPre := fun W => prefix_calls ds [108, 45] (by omega) (by decide) W
  rw [hds.not_l.2] at HPre
  have HPre := Lib.hid HPre
  have HA := Lib.hid (fun W => atoi ds hds W)
  have hD := hds.val_le
  clear hds
  have HC := Lib.hid (fun W (h : Below w.heap.size w W) => Lib.hid (H.below h))
  clear H
  generalize bs ds = S at *
  generalize val ds = D at *
  by_cases hDn : D ≤ n
  · have hgt : decide (n < D) = false := by simp; omega
    rw [Nat.min_eq_left hDn]
    go_enter Tryd.func68, Tryd.ntmps68
    go_wp2_with (first | (go_at_call 64; refine (HPre.out _).mono ?_; rintro e w0 ⟨rfl, rfl⟩) | (go_at_call 65; refine (HA.out _).mono ?_; rintro e w1 ⟨rfl, hb1⟩; have hs1 := hb1.size))
    go_loopw [15] (fun v wr => ∃ k : Nat, v = .int .i64 (1 + (k : Int)) ∧ k ≤ D ∧ Hid (Cp B c (procN neg k 1 l) wr) ∧ Hid (Below B w wr)) (fun v _ => D - (intOf v - 1).toNat)
    case atStart => exact ⟨0, by simp, by omega, Lib.hid (HC.out _ hb1).out, Lib.hid (hb1.mono hBw)⟩
    case round =>
      obtain ⟨k, rfl, hk, hC, hb⟩ := hrel
      have hsz := hb.out.size
      have hpl := procN_length neg k 1 l
      by_cases hlt : k < D
      · have hB9 : B ≤ wr.heap.size := by omega
        have hl9 := Nat.le_trans hpl (show l.n + k ≤ 2000000 by omega)
        go_wp2_with (at_mapUpdate; refine upd Tryd.underlying44 _ rfl (.tmp 70) (.tmp 71) (.tmp 73) rfl hC.out hB9 hl9 (1 + (k : Int)) (WalkArith.wf_i64 (by omega)) neg rfl rfl rfl ?_; intro w9 h1 h2)
        first
          | exact ⟨⟨k + 1, by simp; omega, by omega, Lib.hid h1, Lib.hid (hb.out.trans h2)⟩, by simp [intOf]; omega⟩
          | (go_round
             case rel =>
               (repeat apply Exists.intro)
               refine ⟨?rel2, rfl⟩
               exact ⟨k + 1, by simp; omega, by omega, Lib.hid h1, Lib.hid (hb.out.trans h2)⟩
             case measure => simp [intOf]; omega)
      · have hke : k = D := by omega
        go_wp2_with fail
        exact bodyPost_ret (v := .nilIface) (by simp [results, Tryd.results68, go_sem]) rfl ⟨rfl, by rw [← hke]; exact hC.out, hb.out⟩
  · have hgt : decide (n < D) = true := by simp; omega
    rw [Nat.min_eq_right (by omega)]
    go_enter Tryd.func68, Tryd.ntmps68
    go_wp2_with (first | (go_at_call 64; refine (HPre.out _).mono ?_; rintro e w0 ⟨rfl, rfl⟩) | (go_at_call 65; refine (HA.out _).mono ?_; rintro e w1 ⟨rfl, hb1⟩; have hs1 := hb1.size))
    go_loopw [15] (fun v wr => ∃ k : Nat, v = .int .i64 (1 + (k : Int)) ∧ k ≤ n ∧ Hid (Cp B c (procN neg k 1 l) wr) ∧ Hid (Below B w wr)) (fun v _ => n - (intOf v - 1).toNat)
    case atStart => exact ⟨0, by simp, by omega, Lib.hid (HC.out _ hb1).out, Lib.hid (hb1.mono hBw)⟩
    case round =>
      obtain ⟨k, rfl, hk, hC, hb⟩ := hrel
      have hsz := hb.out.size
      have hpl := procN_length neg k 1 l
      by_cases hlt : k < n
      · have hB9 : B ≤ wr.heap.size := by omega
        have hl9 := Nat.le_trans hpl (show l.n + k ≤ 2000000 by omega)
        go_wp2_with (at_mapUpdate; refine upd Tryd.underlying44 _ rfl (.tmp 70) (.tmp 71) (.tmp 73) rfl hC.out hB9 hl9 (1 + (k : Int)) (WalkArith.wf_i64 (by omega)) neg rfl rfl rfl ?_; intro w9 h1 h2)
        first
          | exact ⟨⟨k + 1, by simp; omega, by omega, Lib.hid h1, Lib.hid (hb.out.trans h2)⟩, by simp [intOf]; omega⟩
          | (go_round
             case rel =>
               (repeat apply Exists.intro)
               refine ⟨?rel2, rfl⟩
               exact ⟨k + 1, by simp; omega, by omega, Lib.hid h1, Lib.hid (hb.out.trans h2)⟩
             case measure => simp [intOf]; omega)
      · have hke : k = n := by omega
        go_wp2_with fail
        exact bodyPost_ret (v := .nilIface) (by simp [results, Tryd.results68, go_sem]) rfl ⟨rfl, by rw [← hke]; exact hC.out, hb.out⟩

end Go.Proofs.YthfihamhkhnckaaDoor.Sel

namespace Go.Proofs.YthfihamhkhnckaaDoor.Sel
open Go.Maps Go.RowKit Go.ChangeShapes Go.Proofs.YthfihamhkhnckaaDoorW.PrintWords

set_option maxHeartbeats 1000000

set_option maxRecDepth 100000 in
theorem suffix_D (l : St) (ds : List UInt8) (hds : Num ds) (neg : Bool) (n : Nat) (hn : n ≤ 1000) (hl : l.n ≤ 900000) (B c : Nat) (w : World) (H : Cp B c l w) (hBw : B ≤ w.heap.size) :
    Calls Tryd.prog 69 #[.string (bs ds), .bool neg, .int .i64 (n : Int), .map (some c)] w (Done B c (procN neg (n + 1 - val ds) (val ds : Nat) l) w) := by
  have HA := Lib.hid (fun W => atoi ds hds W)
  have hD := hds.val_le
  have h4 := hds.four
  clear hds
  have HC := Lib.hid (fun W (h : Below w.heap.size w W) => Lib.hid (H.below h))
  clear H
  generalize bs ds = S at *
  generalize val ds = D at *
  by_cases hDn : D ≤ n
  · have hgt : decide (n < D) = false := by simp; omega
    go_enter Tryd.func69, Tryd.ntmps69
    go_wp2_with (go_at_call 65; refine (HA.out _).mono ?_; rintro e w1 ⟨rfl, hb1⟩; have hs_hb1 := hb1.size)
    go_loopw [11] (fun v wr => ∃ k : Nat, v = .int .i64 ((D : Int) + (k : Int)) ∧ k ≤ (n + 1 - D) ∧ Hid (Cp B c (procN neg k (D : Int) l) wr) ∧ Hid (Below B w wr)) (fun v _ => (n + 1 - D) - (intOf v - (D : Int)).toNat)
    case atStart => exact ⟨0, by simp, by omega, Lib.hid (HC.out _ hb1).out, Lib.hid (hb1.mono hBw)⟩
    case round =>
      obtain ⟨k, rfl, hk, hC, hb⟩ := hrel
      have hsz := hb.out.size
      have hpl := procN_length neg k (D : Int) l
      by_cases hlt : k < (n + 1 - D)
      · have hB9 : B ≤ wr.heap.size := by omega
        have hl9 := Nat.le_trans hpl (show l.n + k ≤ 2000000 by omega)
        go_wp2_with (at_mapUpdate; refine upd Tryd.underlying44 _ rfl (.tmp 29) (.tmp 30) (.tmp 32) rfl hC.out hB9 hl9 ((D : Int) + (k : Int)) (WalkArith.wf_i64 (by omega)) neg rfl rfl rfl ?_; intro w9 h1 h2)
        first
          | exact ⟨⟨k + 1, by simp; omega, by omega, Lib.hid h1, Lib.hid (hb.out.trans h2)⟩, by simp [intOf]; omega⟩
          | (go_round
             case rel =>
               (repeat apply Exists.intro)
               refine ⟨?rel2, rfl⟩
               exact ⟨k + 1, by simp; omega, by omega, Lib.hid h1, Lib.hid (hb.out.trans h2)⟩
             case measure => simp [intOf]; omega)
      · have hke : k = (n + 1 - D) := by omega
        go_wp2_with fail
        exact bodyPost_ret (v := .nilIface) (by simp [results, Tryd.results69, go_sem]) rfl ⟨rfl, by rw [← hke]; exact hC.out, hb.out⟩
  · have hgt : decide (n < D) = true := by simp; omega
    have HZ : procN neg (n + 1 - D) (D : Int) l = l := by rw [show n + 1 - D = 0 by omega]; rfl
    go_enter Tryd.func69, Tryd.ntmps69
    go_wp2_with (go_at_call 65; refine (HA.out _).mono ?_; rintro e w1 ⟨rfl, hb1⟩; have hs_hb1 := hb1.size)
    exact bodyPost_ret (v := .nilIface) (by simp [results, Tryd.results69, go_sem]) rfl ⟨rfl, by rw [HZ]; exact (HC.out _ hb1).out, hb1.mono hBw⟩

set_option maxRecDepth 100000 in
theorem page_l (l : St) (neg : Bool) (n : Nat) (_hn : n ≤ 1000) (hl : l.n ≤ 900000) (B c : Nat) (w : World) (H : Cp B c l w) (hBw : B ≤ w.heap.size) :
    Calls Tryd.prog 70 #[.string (bs [108]), .bool neg, .int .i64 (n : Int), .map (some c)] w (Done B c (procN neg 1 (n : Int) l) w) := by
  have e1 : ((bs [108]).toList == [108]) = true := by rw [bs_toList]; rfl
  generalize bs [108] = S at e1
  have HC := Lib.hid H
  have hl9 : l.n ≤ 2000000 := by omega
  clear H
  go_enter Tryd.func70, Tryd.ntmps70
  go_wp2_with (at_mapUpdate; refine upd Tryd.underlying44 _ rfl (.tmp 18) (.tmp 19) (.tmp 21) rfl HC.out hBw hl9 ((n : Int)) (WalkArith.wf_i64 (by omega)) neg rfl rfl rfl ?_; intro w9 h1 h2)
  exact bodyPost_ret (v := .nilIface) (by simp [results, Tryd.results70, go_sem]) rfl ⟨rfl, by simpa [procN] using h1, h2⟩
set_option maxRecDepth 100000 in
theorem page_D (l : St) (ds : List UInt8) (hds : Num ds) (neg : Bool) (n : Nat) (_hn : n ≤ 1000) (hl : l.n ≤ 900000) (B c : Nat) (w : World) (H : Cp B c l w) (hBw : B ≤ w.heap.size) :
    Calls Tryd.prog 70 #[.string (bs ds), .bool neg, .int .i64 (n : Int), .map (some c)] w (Done B c (if val ds ≤ n then procN neg 1 (val ds : Nat) l else l) w) := by
  have h4 := hds.four
  have e1 : ((bs ds).toList == [108]) = false := by rw [bs_toList]; exact hds.not_l.1
  have HPre := fun W => prefix_calls ds [108, 45] (by omega) (by decide) W
  rw [hds.not_l.2] at HPre
  have HPre := Lib.hid HPre
  have HA := Lib.hid (fun W => atoi ds hds W)
  have hD := hds.val_le
  clear hds
  have HC := Lib.hid (fun W (h : Below w.heap.size w W) => Lib.hid (H.below h))
  clear H
  generalize bs ds = S at *
  generalize val ds = D at *
  by_cases hDn : D ≤ n
  · have hgt : decide (n < D) = false := by simp; omega
    rw [if_pos hDn]
    go_enter Tryd.func70, Tryd.ntmps70
    go_wp2_with (first | (go_at_call 64; refine (HPre.out _).mono ?_; rintro e w0 ⟨rfl, rfl⟩) | (go_at_call 65; refine (HA.out _).mono ?_; rintro e w1 ⟨rfl, hb1⟩; have hs_hb1 := hb1.size) | (at_mapUpdate; refine upd Tryd.underlying44 _ rfl (.tmp 70) (.tmp 71) (.tmp 73) rfl (HC.out _ hb1).out (Nat.le_trans hBw hb1.size) (by omega) ((D : Int)) (WalkArith.wf_i64 (by omega)) neg rfl rfl rfl ?_; intro w9 h1 h2))
    exact bodyPost_ret (v := .nilIface) (by simp [results, Tryd.results70, go_sem]) rfl ⟨rfl, by simpa [procN] using h1, (hb1.mono hBw).trans h2⟩
  · have hgt : decide (n < D) = true := by simp; omega
    rw [if_neg hDn]
    go_enter Tryd.func70, Tryd.ntmps70
    go_wp2_with (first | (go_at_call 64; refine (HPre.out _).mono ?_; rintro e w0 ⟨rfl, rfl⟩) | (go_at_call 65; refine (HA.out _).mono ?_; rintro e w1 ⟨rfl, hb1⟩; have hs_hb1 := hb1.size))
    exact bodyPost_ret (v := .nilIface) (by simp [results, Tryd.results70, go_sem]) rfl ⟨rfl, (HC.out _ hb1).out, hb1.mono hBw⟩

set_option maxRecDepth 100000 in
theorem page_lD (l : St) (ds : List UInt8) (hds : Num ds) (neg : Bool) (n : Nat) (hn : n ≤ 1000) (hl : l.n ≤ 900000) (B c : Nat) (w : World) (H : Cp B c l w) (hBw : B ≤ w.heap.size) :
    Calls Tryd.prog 70 #[.string (bs (108 :: 45 :: ds)), .bool neg, .int .i64 (n : Int), .map (some c)] w (Done B c (if val ds < n then procN neg 1 ((n : Int) - (val ds : Nat)) l else l) w) := by
  have h4 := hds.four
  have e1 : ((bs (108 :: 45 :: ds)).toList == [108]) = false := by rw [bs_toList]; rfl
  have HPre := fun W => prefix_calls (108 :: 45 :: ds) [108, 45] (by simp; omega) (by decide) W
  rw [show ([108, 45] : List UInt8).isPrefixOf (108 :: 45 :: ds) = true by simp [List.isPrefixOf]] at HPre
  have HPre := Lib.hid HPre
  have HSuf := fun W => suffix_calls (108 :: 45 :: ds) (by simp) (by simp; omega) W
  have hsuf : (List.drop ((108 :: 45 :: ds).length - 1) (108 :: 45 :: ds) == [45]) = false := by
    rw [beq_eq_false_iff_ne]
    intro h
    have h9 : (45 : UInt8) ∈ (108 :: 45 :: ds).drop ((108 :: 45 :: ds).length - 1) := by rw [h]; simp
    obtain ⟨c, r, rfl, _, _⟩ := hds.cons
    rw [show (108 :: 45 :: c :: r).length - 1 = r.length + 2 by simp] at h9
    exact hds.no_dash (List.mem_of_mem_drop (i := r.length) h9)
  rw [hsuf] at HSuf
  have HSuf := Lib.hid HSuf
  have hx := bs_extract (108 :: 45 :: ds) 2 (ds.length + 2)
  rw [List.take_of_length_le (by simp)] at hx
  have hx' : (bs (108 :: 45 :: ds)).extract 2 (ds.length + 2) = bs ds := hx
  have hsz' : (bs (108 :: 45 :: ds)).size = ds.length + 2 := by rw [bs_size]; rfl
  have hNT : ds.length ≤ 5 := by first | omega | (simp; omega)
  have HS := Lib.hid (fun W => split_cells ds [ds] (splitL_none 45 ds hds.no_dash) (by simp) (by first | omega | (simp; omega)) W)
  have HA := Lib.hid (fun W => atoi ds hds W)
  have hD := hds.val_le
  clear hx hds hsuf
  have HC := Lib.hid (fun W (h : Below w.heap.size w W) => Lib.hid (H.below h))
  clear H
  obtain ⟨U, hU⟩ : ∃ U, bs ds = U := ⟨_, rfl⟩
  rw [hU] at HA
  generalize bs (108 :: 45 :: ds) = S at *
  rw [hU] at hx' HS
  have HU := Lib.hid hU
  clear hU
  generalize ds.length = NT at *
  generalize val ds = D at *
  by_cases hDn : D < n
  · have hlt : ¬ ((n : Int) - (D : Int) < 1) := by omega
    rw [if_pos hDn]
    go_enter Tryd.func70, Tryd.ntmps70
    go_wp2_with (first | (go_at_call 64; refine (HPre.out _).mono ?_; rintro e w0 ⟨rfl, rfl⟩) | (go_at_call 47; with_reducible refine (HS.out _).mono ?_; rintro e w2 ⟨g, cap, rfl, hcl, hb2⟩; have hs2 := hb2.size; have k0 := hcl 0 ds rfl; rw [HU.out] at k0; clear hcl) | (go_at_call 65; refine (HA.out _).mono ?_; rintro e w1 ⟨rfl, hb1⟩; have hs_hb1 := hb1.size) | (go_at_call 44; refine (HSuf.out _).mono ?_; rintro e w8 ⟨rfl, rfl⟩))
    go_loopw [13] (fun v wr => ∃ k : Nat, v = .int .i64 (((n : Int) - (D : Int)) + (k : Int)) ∧ k ≤ 1 ∧ Hid (Cp B c (procN neg k ((n : Int) - (D : Int)) l) wr) ∧ Hid (Below B w wr)) (fun v _ => 1 - (intOf v - ((n : Int) - (D : Int))).toNat)
    case atStart => exact ⟨0, by simp, by omega, Lib.hid (HC.out _ (hb2.trans (hb1.mono hs2))).out, Lib.hid ((hb2.trans (hb1.mono hs2)).mono hBw)⟩
    case round =>
      obtain ⟨k, rfl, hk, hC, hb⟩ := hrel
      have hsz := hb.out.size
      have hpl := procN_length neg k ((n : Int) - (D : Int)) l
      by_cases hlt : k < 1
      · have hB9 : B ≤ wr.heap.size := by omega
        have hl9 := Nat.le_trans hpl (show l.n + k ≤ 2000000 by omega)
        go_wp2_with (at_mapUpdate; refine upd Tryd.underlying44 _ rfl (.tmp 55) (.tmp 56) (.tmp 58) rfl hC.out hB9 hl9 (((n : Int) - (D : Int)) + (k : Int)) (WalkArith.wf_i64 (by omega)) neg rfl rfl rfl ?_; intro w9 h1 h2)
        first
          | exact ⟨⟨k + 1, by simp; omega, by omega, Lib.hid h1, Lib.hid (hb.out.trans h2)⟩, by simp [intOf]; omega⟩
          | (go_round
             case rel =>
               (repeat apply Exists.intro)
               refine ⟨?rel2, rfl⟩
               exact ⟨k + 1, by simp; omega, by omega, Lib.hid h1, Lib.hid (hb.out.trans h2)⟩
             case measure => simp [intOf]; omega)
      · have hke : k = 1 := by omega
        go_wp2_with fail
        exact bodyPost_ret (v := .nilIface) (by simp [results, Tryd.results70, go_sem]) rfl ⟨rfl, by rw [← hke]; exact hC.out, hb.out⟩
  · have hlt : ((n : Int) - (D : Int) < 1) := by omega
    rw [if_neg hDn]
    go_enter Tryd.func70, Tryd.ntmps70
    go_wp2_with (first | (go_at_call 64; refine (HPre.out _).mono ?_; rintro e w0 ⟨rfl, rfl⟩) | (go_at_call 47; with_reducible refine (HS.out _).mono ?_; rintro e w2 ⟨g, cap, rfl, hcl, hb2⟩; have hs2 := hb2.size; have k0 := hcl 0 ds rfl; rw [HU.out] at k0; clear hcl) | (go_at_call 65; refine (HA.out _).mono ?_; rintro e w1 ⟨rfl, hb1⟩; have hs_hb1 := hb1.size) | (go_at_call 44; refine (HSuf.out _).mono ?_; rintro e w8 ⟨rfl, rfl⟩))
    exact bodyPost_ret (v := .nilIface) (by simp [results, Tryd.results70, go_sem]) rfl ⟨rfl, (HC.out _ (hb2.trans (hb1.mono hs2))).out, (hb2.trans (hb1.mono hs2)).mono hBw⟩

set_option maxRecDepth 100000 in
theorem page_lDx (l : St) (ds : List UInt8) (hds : Num ds) (neg : Bool) (n : Nat) (hn : n ≤ 1000) (hl : l.n ≤ 900000) (B c : Nat) (w : World) (H : Cp B c l w) (hBw : B ≤ w.heap.size) :
    Calls Tryd.prog 70 #[.string (bs (108 :: 45 :: (ds ++ [45]))), .bool neg, .int .i64 (n : Int), .map (some c)] w (Done B c (if val ds < n then procN neg ((val ds) + 1) ((n : Int) - (val ds : Nat)) l else l) w) := by
  have h4 := hds.four
  have e1 : ((bs (108 :: 45 :: (ds ++ [45]))).toList == [108]) = false := by rw [bs_toList]; rfl
  have HPre := fun W => prefix_calls (108 :: 45 :: (ds ++ [45])) [108, 45] (by simp; omega) (by decide) W
  rw [show ([108, 45] : List UInt8).isPrefixOf (108 :: 45 :: (ds ++ [45])) = true by simp [List.isPrefixOf]] at HPre
  have HPre := Lib.hid HPre
  have HSuf := fun W => suffix_calls (108 :: 45 :: (ds ++ [45])) (by simp) (by simp; omega) W
  have hsuf : (List.drop ((108 :: 45 :: (ds ++ [45])).length - 1) (108 :: 45 :: (ds ++ [45])) == [45]) = true := by
    rw [show (108 :: 45 :: (ds ++ [45])).length - 1 = ds.length + 2 by simp, show (108 :: 45 :: (ds ++ [45])) = (108 :: 45 :: ds) ++ [45] by simp, List.drop_left' (by simp)]
    rfl
  rw [hsuf] at HSuf
  have HSuf := Lib.hid HSuf
  have hx := bs_extract (108 :: 45 :: (ds ++ [45])) 2 ((ds ++ [45]).length + 2)
  rw [List.take_of_length_le (by simp)] at hx
  have hx' : (bs (108 :: 45 :: (ds ++ [45]))).extract 2 ((ds ++ [45]).length + 2) = bs (ds ++ [45]) := hx
  have hsz' : (bs (108 :: 45 :: (ds ++ [45]))).size = (ds ++ [45]).length + 2 := by rw [bs_size]; rfl
  have hNT : (ds ++ [45]).length ≤ 5 := by first | omega | (simp; omega)
  have HS := Lib.hid (fun W => split_cells (ds ++ [45]) [ds, []] (by rw [splitL_at 45 ds [] hds.no_dash]; rfl) (by simp) (by first | omega | (simp; omega)) W)
  have HA := Lib.hid (fun W => atoi ds hds W)
  have hD := hds.val_le
  clear hx hds hsuf
  have HC := Lib.hid (fun W (h : Below w.heap.size w W) => Lib.hid (H.below h))
  clear H
  obtain ⟨U, hU⟩ : ∃ U, bs ds = U := ⟨_, rfl⟩
  rw [hU] at HA
  generalize bs (108 :: 45 :: (ds ++ [45])) = S at *
  generalize bs (ds ++ [45]) = T at *
  have HU := Lib.hid hU
  clear hU
  generalize (ds ++ [45]).length = NT at *
  generalize val ds = D at *
  by_cases hDn : D < n
  · have hlt : ¬ ((n : Int) - (D : Int) < 1) := by omega
    rw [if_pos hDn]
    go_enter Tryd.func70, Tryd.ntmps70
    go_wp2_with (first | (go_at_call 64; refine (HPre.out _).mono ?_; rintro e w0 ⟨rfl, rfl⟩) | (go_at_call 47; with_reducible refine (HS.out _).mono ?_; rintro e w2 ⟨g, cap, rfl, hcl, hb2⟩; have hs2 := hb2.size; have k0 := hcl 0 ds rfl; rw [HU.out] at k0; clear hcl) | (go_at_call 65; refine (HA.out _).mono ?_; rintro e w1 ⟨rfl, hb1⟩; have hs_hb1 := hb1.size) | (go_at_call 44; refine (HSuf.out _).mono ?_; rintro e w8 ⟨rfl, rfl⟩))
    go_loopw [13] (fun v wr => ∃ k : Nat, v = .int .i64 (((n : Int) - (D : Int)) + (k : Int)) ∧ k ≤ (D + 1) ∧ Hid (Cp B c (procN neg k ((n : Int) - (D : Int)) l) wr) ∧ Hid (Below B w wr)) (fun v _ => (D + 1) - (intOf v - ((n : Int) - (D : Int))).toNat)
    case atStart => exact ⟨0, by simp, by omega, Lib.hid (HC.out _ (hb2.trans (hb1.mono hs2))).out, Lib.hid ((hb2.trans (hb1.mono hs2)).mono hBw)⟩
    case round =>
      obtain ⟨k, rfl, hk, hC, hb⟩ := hrel
      have hsz := hb.out.size
      have hpl := procN_length neg k ((n : Int) - (D : Int)) l
      by_cases hlt : k < (D + 1)
      · have hB9 : B ≤ wr.heap.size := by omega
        have hl9 := Nat.le_trans hpl (show l.n + k ≤ 2000000 by omega)
        go_wp2_with (at_mapUpdate; refine upd Tryd.underlying44 _ rfl (.tmp 55) (.tmp 56) (.tmp 58) rfl hC.out hB9 hl9 (((n : Int) - (D : Int)) + (k : Int)) (WalkArith.wf_i64 (by omega)) neg rfl rfl rfl ?_; intro w9 h1 h2)
        first
          | exact ⟨⟨k + 1, by simp; omega, by omega, Lib.hid h1, Lib.hid (hb.out.trans h2)⟩, by simp [intOf]; omega⟩
          | (go_round
             case rel =>
               (repeat apply Exists.intro)
               refine ⟨?rel2, rfl⟩
               exact ⟨k + 1, by simp; omega, by omega, Lib.hid h1, Lib.hid (hb.out.trans h2)⟩
             case measure => simp [intOf]; omega)
      · have hke : k = (D + 1) := by omega
        go_wp2_with fail
        exact bodyPost_ret (v := .nilIface) (by simp [results, Tryd.results70, go_sem]) rfl ⟨rfl, by rw [← hke]; exact hC.out, hb.out⟩
  · have hlt : ((n : Int) - (D : Int) < 1) := by omega
    rw [if_neg hDn]
    go_enter Tryd.func70, Tryd.ntmps70
    go_wp2_with (first | (go_at_call 64; refine (HPre.out _).mono ?_; rintro e w0 ⟨rfl, rfl⟩) | (go_at_call 47; with_reducible refine (HS.out _).mono ?_; rintro e w2 ⟨g, cap, rfl, hcl, hb2⟩; have hs2 := hb2.size; have k0 := hcl 0 ds rfl; rw [HU.out] at k0; clear hcl) | (go_at_call 65; refine (HA.out _).mono ?_; rintro e w1 ⟨rfl, hb1⟩; have hs_hb1 := hb1.size) | (go_at_call 44; refine (HSuf.out _).mono ?_; rintro e w8 ⟨rfl, rfl⟩))
    exact bodyPost_ret (v := .nilIface) (by simp [results, Tryd.results70, go_sem]) rfl ⟨rfl, (HC.out _ (hb2.trans (hb1.mono hs2))).out, (hb2.trans (hb1.mono hs2)).mono hBw⟩

end Go.Proofs.YthfihamhkhnckaaDoor.Sel

namespace Go.Proofs.YthfihamhkhnckaaDoor.Sel
open Go.Maps Go.RowKit Go.ChangeShapes Go.Proofs.YthfihamhkhnckaaDoorW.PrintWords

set_option maxHeartbeats 1000000

set_option maxRecDepth 100000 in
theorem range_DE (l : St) (ds es : List UInt8) (hds : Num ds) (hes : Num es) (neg : Bool) (n : Nat) (hn : n ≤ 1000) (hl : l.n ≤ 900000) (B c : Nat) (w : World) (H : Cp B c l w) (hBw : B ≤ w.heap.size) (g cap : Nat) (c0 : w.cell? ⟨g, 0, none⟩ = some (.string (bs ds))) (c1 : w.cell? ⟨g, 1, none⟩ = some (.string (bs es))) :
    Calls Tryd.prog 71 #[.slice (some ⟨g, 0, none⟩) 2 cap, .int .i64 (n : Int), .bool neg, .map (some c)] w (Done B c (procN neg (min (val es) n + 1 - (val ds)) (val ds : Nat) l) w) := by
  have HA := Lib.hid (fun W => atoi ds hds W)
  have hD := hds.val_le
  have hD1 := hds.val_pos
  have HE := Lib.hid (fun W => atoi es hes W)
  have hE := hes.val_le
  have hE1 := hes.val_pos
  have e1 : ((bs es).toList == [108]) = false := by rw [bs_toList]; exact hes.not_l.1
  clear hds hes
  have HC := Lib.hid (fun W (h : Below w.heap.size w W) => Lib.hid (H.below h))
  clear H
  generalize bs ds = U at *
  generalize val ds = D at *
  generalize bs es = V at *
  generalize val es = E at *
  by_cases hc0 : n < D
  · have hgt : decide (n < D) = true := by simp; omega
    have HZ : procN neg (min E n + 1 - D) (D : Int) l = l := by rw [show min E n + 1 - D = 0 by omega]; rfl
    go_enter Tryd.func71, Tryd.ntmps71
    go_wp2_with (first | (go_at_call 65; with_reducible refine (HA.out _).mono ?_; rintro e w1 ⟨rfl, hb1⟩; have hs1 := hb1.size; have k1 := pw_cell_below hb1 c1) | (go_at_call 65; with_reducible refine (HE.out _).mono ?_; rintro e w2 ⟨rfl, hb2⟩; have hs2 := hb2.size; have HBB := Lib.hid (hb1.trans (hb2.mono hs1))))
    exact bodyPost_ret (v := .nilIface) (by simp [results, Tryd.results71, go_sem]) rfl ⟨rfl, by rw [HZ]; exact (HC.out _ hb1).out, hb1.mono hBw⟩
  by_cases hc1 : E < D
  · have hgt : decide (n < D) = false := by simp; omega
    have hlt1 : decide (E < D) = true := by simp; omega
    have HZ : procN neg (min E n + 1 - D) (D : Int) l = l := by rw [show min E n + 1 - D = 0 by omega]; rfl
    go_enter Tryd.func71, Tryd.ntmps71
    go_wp2_with (first | (go_at_call 65; with_reducible refine (HA.out _).mono ?_; rintro e w1 ⟨rfl, hb1⟩; have hs1 := hb1.size; have k1 := pw_cell_below hb1 c1) | (go_at_call 65; with_reducible refine (HE.out _).mono ?_; rintro e w2 ⟨rfl, hb2⟩; have hs2 := hb2.size; have HBB := Lib.hid (hb1.trans (hb2.mono hs1))))
    exact bodyPost_ret (v := .nilIface) (by simp [results, Tryd.results71, go_sem]) rfl ⟨rfl, by rw [HZ]; exact (HC.out _ HBB.out).out, HBB.out.mono hBw⟩
  by_cases hc2 : n < E
  · have hgt : decide (n < D) = false := by simp; omega
    have hlt1 : decide (E < D) = false := by simp; omega
    have hgt2 : decide (n < E) = true := by simp; omega
    rw [show min E n + 1 - D = n + 1 - D by omega]
    go_enter Tryd.func71, Tryd.ntmps71
    go_wp2_with (first | (go_at_call 65; with_reducible refine (HA.out _).mono ?_; rintro e w1 ⟨rfl, hb1⟩; have hs1 := hb1.size; have k1 := pw_cell_below hb1 c1) | (go_at_call 65; with_reducible refine (HE.out _).mono ?_; rintro e w2 ⟨rfl, hb2⟩; have hs2 := hb2.size; have HBB := Lib.hid (hb1.trans (hb2.mono hs1))))
    go_loopw [15] (fun v wr => ∃ k : Nat, v = .int .i64 ((D : Int) + (k : Int)) ∧ k ≤ (n + 1 - D) ∧ Hid (Cp B c (procN neg k (D : Int) l) wr) ∧ Hid (Below B w wr)) (fun v _ => (n + 1 - D) - (intOf v - (D : Int)).toNat)
    case atStart => exact ⟨0, by simp, by omega, Lib.hid (HC.out _ HBB.out).out, Lib.hid (HBB.out.mono hBw)⟩
    case round =>
      obtain ⟨k, rfl, hk, hC, hb⟩ := hrel
      have hsz := hb.out.size
      have hpl := procN_length neg k (D : Int) l
      by_cases hlt : k < (n + 1 - D)
      · have hB9 : B ≤ wr.heap.size := by omega
        have hl9 := Nat.le_trans hpl (show l.n + k ≤ 2000000 by omega)
        go_wp2_with (at_mapUpdate; refine upd Tryd.underlying44 _ rfl (.tmp 73) (.tmp 74) (.tmp 76) rfl hC.out hB9 hl9 ((D : Int) + (k : Int)) (WalkArith.wf_i64 (by omega)) neg rfl rfl rfl ?_; intro w9 h1 h2)
        first
          | exact ⟨⟨k + 1, by simp; omega, by omega, Lib.hid h1, Lib.hid (hb.out.trans h2)⟩, by simp [intOf]; omega⟩
          | (go_round
             case rel =>
               (repeat apply Exists.intro)
               refine ⟨?rel2, rfl⟩
               exact ⟨k + 1, by simp; omega, by omega, Lib.hid h1, Lib.hid (hb.out.trans h2)⟩
             case measure => simp [intOf]; omega)
      · have hke : k = (n + 1 - D) := by omega
        go_wp2_with fail
        exact bodyPost_ret (v := .nilIface) (by simp [results, Tryd.results71, go_sem]) rfl ⟨rfl, by rw [← hke]; exact hC.out, hb.out⟩
  have hgt : decide (n < D) = false := by simp; omega
  have hlt1 : decide (E < D) = false := by simp; omega
  have hgt2 : decide (n < E) = false := by simp; omega
  rw [show min E n + 1 - D = E + 1 - D by omega]
  go_enter Tryd.func71, Tryd.ntmps71
  go_wp2_with (first | (go_at_call 65; with_reducible refine (HA.out _).mono ?_; rintro e w1 ⟨rfl, hb1⟩; have hs1 := hb1.size; have k1 := pw_cell_below hb1 c1) | (go_at_call 65; with_reducible refine (HE.out _).mono ?_; rintro e w2 ⟨rfl, hb2⟩; have hs2 := hb2.size; have HBB := Lib.hid (hb1.trans (hb2.mono hs1))))
  go_loopw [15] (fun v wr => ∃ k : Nat, v = .int .i64 ((D : Int) + (k : Int)) ∧ k ≤ (E + 1 - D) ∧ Hid (Cp B c (procN neg k (D : Int) l) wr) ∧ Hid (Below B w wr)) (fun v _ => (E + 1 - D) - (intOf v - (D : Int)).toNat)
  case atStart => exact ⟨0, by simp, by omega, Lib.hid (HC.out _ HBB.out).out, Lib.hid (HBB.out.mono hBw)⟩
  case round =>
    obtain ⟨k, rfl, hk, hC, hb⟩ := hrel
    have hsz := hb.out.size
    have hpl := procN_length neg k (D : Int) l
    by_cases hlt : k < (E + 1 - D)
    · have hB9 : B ≤ wr.heap.size := by omega
      have hl9 := Nat.le_trans hpl (show l.n + k ≤ 2000000 by omega)
      go_wp2_with (at_mapUpdate; refine upd Tryd.underlying44 _ rfl (.tmp 73) (.tmp 74) (.tmp 76) rfl hC.out hB9 hl9 ((D : Int) + (k : Int)) (WalkArith.wf_i64 (by omega)) neg rfl rfl rfl ?_; intro w9 h1 h2)
      first
        | exact ⟨⟨k + 1, by simp; omega, by omega, Lib.hid h1, Lib.hid (hb.out.trans h2)⟩, by simp [intOf]; omega⟩
        | (go_round
           case rel =>
             (repeat apply Exists.intro)
             refine ⟨?rel2, rfl⟩
             exact ⟨k + 1, by simp; omega, by omega, Lib.hid h1, Lib.hid (hb.out.trans h2)⟩
           case measure => simp [intOf]; omega)
    · have hke : k = (E + 1 - D) := by omega
      go_wp2_with fail
      exact bodyPost_ret (v := .nilIface) (by simp [results, Tryd.results71, go_sem]) rfl ⟨rfl, by rw [← hke]; exact hC.out, hb.out⟩

set_option maxRecDepth 100000 in
theorem range_Dl (l : St) (ds : List UInt8) (hds : Num ds) (neg : Bool) (n : Nat) (hn : n ≤ 1000) (hl : l.n ≤ 900000) (B c : Nat) (w : World) (H : Cp B c l w) (hBw : B ≤ w.heap.size) (g cap : Nat) (c0 : w.cell? ⟨g, 0, none⟩ = some (.string (bs ds))) (c1 : w.cell? ⟨g, 1, none⟩ = some (.string (bs [108]))) :
    Calls Tryd.prog 71 #[.slice (some ⟨g, 0, none⟩) 2 cap, .int .i64 (n : Int), .bool neg, .map (some c)] w (Done B c (procN neg (n + 1 - (val ds)) (val ds : Nat) l) w) := by
  have HA := Lib.hid (fun W => atoi ds hds W)
  have hD := hds.val_le
  have hD1 := hds.val_pos
  have e1 : ((bs [108]).toList == [108]) = true := by rw [bs_toList]; rfl
  generalize bs [108] = K at *
  clear hds
  have HC := Lib.hid (fun W (h : Below w.heap.size w W) => Lib.hid (H.below h))
  clear H
  generalize bs ds = U at *
  generalize val ds = D at *
  by_cases hc0 : n < D
  · have hgt : decide (n < D) = true := by simp; omega
    have HZ : procN neg (n + 1 - D) (D : Int) l = l := by rw [show n + 1 - D = 0 by omega]; rfl
    go_enter Tryd.func71, Tryd.ntmps71
    go_wp2_with (go_at_call 65; with_reducible refine (HA.out _).mono ?_; rintro e w1 ⟨rfl, hb1⟩; have hs1 := hb1.size; have k1 := pw_cell_below hb1 c1)
    exact bodyPost_ret (v := .nilIface) (by simp [results, Tryd.results71, go_sem]) rfl ⟨rfl, by rw [HZ]; exact (HC.out _ hb1).out, hb1.mono hBw⟩
  have hgt : decide (n < D) = false := by simp; omega
  rw [show n + 1 - D = n + 1 - D by omega]
  go_enter Tryd.func71, Tryd.ntmps71
  go_wp2_with (go_at_call 65; with_reducible refine (HA.out _).mono ?_; rintro e w1 ⟨rfl, hb1⟩; have hs1 := hb1.size; have k1 := pw_cell_below hb1 c1)
  go_loopw [15] (fun v wr => ∃ k : Nat, v = .int .i64 ((D : Int) + (k : Int)) ∧ k ≤ (n + 1 - D) ∧ Hid (Cp B c (procN neg k (D : Int) l) wr) ∧ Hid (Below B w wr)) (fun v _ => (n + 1 - D) - (intOf v - (D : Int)).toNat)
  case atStart => exact ⟨0, by simp, by omega, Lib.hid (HC.out _ hb1).out, Lib.hid (hb1.mono hBw)⟩
  case round =>
    obtain ⟨k, rfl, hk, hC, hb⟩ := hrel
    have hsz := hb.out.size
    have hpl := procN_length neg k (D : Int) l
    by_cases hlt : k < (n + 1 - D)
    · have hB9 : B ≤ wr.heap.size := by omega
      have hl9 := Nat.le_trans hpl (show l.n + k ≤ 2000000 by omega)
      go_wp2_with (at_mapUpdate; refine upd Tryd.underlying44 _ rfl (.tmp 73) (.tmp 74) (.tmp 76) rfl hC.out hB9 hl9 ((D : Int) + (k : Int)) (WalkArith.wf_i64 (by omega)) neg rfl rfl rfl ?_; intro w9 h1 h2)
      first
        | exact ⟨⟨k + 1, by simp; omega, by omega, Lib.hid h1, Lib.hid (hb.out.trans h2)⟩, by simp [intOf]; omega⟩
        | (go_round
           case rel =>
             (repeat apply Exists.intro)
             refine ⟨?rel2, rfl⟩
             exact ⟨k + 1, by simp; omega, by omega, Lib.hid h1, Lib.hid (hb.out.trans h2)⟩
           case measure => simp [intOf]; omega)
    · have hke : k = (n + 1 - D) := by omega
      go_wp2_with fail
      exact bodyPost_ret (v := .nilIface) (by simp [results, Tryd.results71, go_sem]) rfl ⟨rfl, by rw [← hke]; exact hC.out, hb.out⟩

set_option maxRecDepth 100000 in
theorem range_DlE (l : St) (ds es : List UInt8) (hds : Num ds) (hes : Num es) (neg : Bool) (n : Nat) (hn : n ≤ 1000) (hl : l.n ≤ 900000) (B c : Nat) (w : World) (H : Cp B c l w) (hBw : B ≤ w.heap.size) (g cap : Nat) (c0 : w.cell? ⟨g, 0, none⟩ = some (.string (bs ds))) (c1 : w.cell? ⟨g, 1, none⟩ = some (.string (bs [108]))) (c2 : w.cell? ⟨g, 2, none⟩ = some (.string (bs es))) :
    Calls Tryd.prog 71 #[.slice (some ⟨g, 0, none⟩) 3 cap, .int .i64 (n : Int), .bool neg, .map (some c)] w (Done B c (procN neg (n - (val es) + 1 - (val ds)) (val ds : Nat) l) w) := by
  have HA := Lib.hid (fun W => atoi ds hds W)
  have hD := hds.val_le
  have hD1 := hds.val_pos
  have HE := Lib.hid (fun W => atoi es hes W)
  have hE := hes.val_le
  have hE1 := hes.val_pos
  have e1 : ((bs [108]).toList == [108]) = true := by rw [bs_toList]; rfl
  generalize bs [108] = K at *
  clear hds hes
  have HC := Lib.hid (fun W (h : Below w.heap.size w W) => Lib.hid (H.below h))
  clear H
  generalize bs ds = U at *
  generalize val ds = D at *
  generalize bs es = V at *
  generalize val es = E at *
  by_cases hc0 : n < D
  · have hgt : decide (n < D) = true := by simp; omega
    have HZ : procN neg (n - E + 1 - D) (D : Int) l = l := by rw [show n - E + 1 - D = 0 by omega]; rfl
    go_enter Tryd.func71, Tryd.ntmps71
    go_wp2_with (first | (go_at_call 65; with_reducible refine (HA.out _).mono ?_; rintro e w1 ⟨rfl, hb1⟩; have hs1 := hb1.size; have k1 := pw_cell_below hb1 c1; have k2 := pw_cell_below hb1 c2) | (go_at_call 65; with_reducible refine (HE.out _).mono ?_; rintro e w2 ⟨rfl, hb2⟩; have hs2 := hb2.size; have HBB := Lib.hid (hb1.trans (hb2.mono hs1))))
    exact bodyPost_ret (v := .nilIface) (by simp [results, Tryd.results71, go_sem]) rfl ⟨rfl, by rw [HZ]; exact (HC.out _ hb1).out, hb1.mono hBw⟩
  by_cases hc1 : (n : Int) - (E : Int) < (D : Int)
  · have hgt : decide (n < D) = false := by simp; omega
    have hlt1 : decide ((n : Int) - (E : Int) < (D : Int)) = true := by simp; omega
    have HZ : procN neg (n - E + 1 - D) (D : Int) l = l := by rw [show n - E + 1 - D = 0 by omega]; rfl
    go_enter Tryd.func71, Tryd.ntmps71
    go_wp2_with (first | (go_at_call 65; with_reducible refine (HA.out _).mono ?_; rintro e w1 ⟨rfl, hb1⟩; have hs1 := hb1.size; have k1 := pw_cell_below hb1 c1; have k2 := pw_cell_below hb1 c2) | (go_at_call 65; with_reducible refine (HE.out _).mono ?_; rintro e w2 ⟨rfl, hb2⟩; have hs2 := hb2.size; have HBB := Lib.hid (hb1.trans (hb2.mono hs1))))
    exact bodyPost_ret (v := .nilIface) (by simp [results, Tryd.results71, go_sem]) rfl ⟨rfl, by rw [HZ]; exact (HC.out _ HBB.out).out, HBB.out.mono hBw⟩
  have hgt : decide (n < D) = false := by simp; omega
  have hlt1 : decide ((n : Int) - (E : Int) < (D : Int)) = false := by simp; omega
  have hgt2 : decide ((n : Int) < (n : Int) - (E : Int)) = false := by simp; omega
  have hle3 : E ≤ n := by omega
  rw [show n - E + 1 - D = n - E + 1 - D by omega]
  go_enter Tryd.func71, Tryd.ntmps71
  go_wp2_with (first | (go_at_call 65; with_reducible refine (HA.out _).mono ?_; rintro e w1 ⟨rfl, hb1⟩; have hs1 := hb1.size; have k1 := pw_cell_below hb1 c1; have k2 := pw_cell_below hb1 c2) | (go_at_call 65; with_reducible refine (HE.out _).mono ?_; rintro e w2 ⟨rfl, hb2⟩; have hs2 := hb2.size; have HBB := Lib.hid (hb1.trans (hb2.mono hs1))))
  go_loopw [15] (fun v wr => ∃ k : Nat, v = .int .i64 ((D : Int) + (k : Int)) ∧ k ≤ (n - E + 1 - D) ∧ Hid (Cp B c (procN neg k (D : Int) l) wr) ∧ Hid (Below B w wr)) (fun v _ => (n - E + 1 - D) - (intOf v - (D : Int)).toNat)
  case atStart => exact ⟨0, by simp, by omega, Lib.hid (HC.out _ HBB.out).out, Lib.hid (HBB.out.mono hBw)⟩
  case round =>
    obtain ⟨k, rfl, hk, hC, hb⟩ := hrel
    have hsz := hb.out.size
    have hpl := procN_length neg k (D : Int) l
    by_cases hlt : k < (n - E + 1 - D)
    · have hB9 : B ≤ wr.heap.size := by omega
      have hl9 := Nat.le_trans hpl (show l.n + k ≤ 2000000 by omega)
      go_wp2_with (at_mapUpdate; refine upd Tryd.underlying44 _ rfl (.tmp 73) (.tmp 74) (.tmp 76) rfl hC.out hB9 hl9 ((D : Int) + (k : Int)) (WalkArith.wf_i64 (by omega)) neg rfl rfl rfl ?_; intro w9 h1 h2)
      first
        | exact ⟨⟨k + 1, by simp; omega, by omega, Lib.hid h1, Lib.hid (hb.out.trans h2)⟩, by simp [intOf]; omega⟩
        | (go_round
           case rel =>
             (repeat apply Exists.intro)
             refine ⟨?rel2, rfl⟩
             exact ⟨k + 1, by simp; omega, by omega, Lib.hid h1, Lib.hid (hb.out.trans h2)⟩
           case measure => simp [intOf]; omega)
    · have hke : k = (n - E + 1 - D) := by omega
      go_wp2_with fail
      exact bodyPost_ret (v := .nilIface) (by simp [results, Tryd.results71, go_sem]) rfl ⟨rfl, by rw [← hke]; exact hC.out, hb.out⟩

end Go.Proofs.YthfihamhkhnckaaDoor.Sel

namespace Go.Proofs.YthfihamhkhnckaaDoor.Sel
open Go.Maps Go.RowKit Go.ChangeShapes Go.Proofs.YthfihamhkhnckaaDoorW.PrintWords

set_option maxHeartbeats 1000000

theorem norm_dash (r : List UInt8) (neg : Bool) (n : Nat) (i : Int) (TK : ByteArray) (B c : Nat) (w : World) (_hBw : B ≤ w.heap.size) (L : St)
    (HF : Calls Tryd.prog 68 #[.string (bs r), .bool neg, .int .i64 (n : Int), .map (some c)] w (Done B c L w)) :
    Calls Tryd.prog 51 #[.int .i64 (n : Int), .int .i64 i, .string TK, .string (bs (45 :: r)), .bool neg, .map (some c)] w (Done B c L w) := by
  obtain ⟨S, hS⟩ : ∃ S, S = bs (45 :: r) := ⟨_, rfl⟩
  have hsz : S.size = r.length + 1 := by rw [hS, bs_size]; rfl
  have hx0 : ((S[0]'(by omega)).toNat : Int) = 45 := by subst hS; rfl
  have hx := bs_extract (45 :: r) 1 (r.length + 1)
  rw [List.take_of_length_le (by simp)] at hx
  have hx' : S.extract 1 (r.length + 1) = bs r := by rw [hS]; exact hx
  have HF := Lib.hid HF
  clear hx
  rw [← hS]
  clear hS
  generalize bs r = T at *
  go_enter Tryd.func51, Tryd.ntmps51
  go_wp2_with (go_at_call 68; refine HF.out.mono ?_; rintro e w9 ⟨rfl, h1, h2⟩)
  exact bodyPost_ret (v := .nilIface) (by simp [results, Tryd.results51, go_sem]) rfl ⟨rfl, h1, h2⟩
theorem norm_l (r : List UInt8) (neg : Bool) (n : Nat) (i : Int) (TK : ByteArray) (B c : Nat) (w : World) (_hBw : B ≤ w.heap.size) (L : St)
    (HF : Calls Tryd.prog 70 #[.string (bs (108 :: r)), .bool neg, .int .i64 (n : Int), .map (some c)] w (Done B c L w)) :
    Calls Tryd.prog 51 #[.int .i64 (n : Int), .int .i64 i, .string TK, .string (bs (108 :: r)), .bool neg, .map (some c)] w (Done B c L w) := by
  obtain ⟨S, hS⟩ : ∃ S, S = bs (108 :: r) := ⟨_, rfl⟩
  have hsz : S.size = r.length + 1 := by rw [hS, bs_size]; rfl
  have hx0 : ((S[0]'(by omega)).toNat : Int) = 108 := by subst hS; rfl
  rw [← hS] at HF ⊢
  have HF := Lib.hid HF
  clear hS
  go_enter Tryd.func51, Tryd.ntmps51
  go_wp2_with (go_at_call 70; refine HF.out.mono ?_; rintro e w9 ⟨rfl, h1, h2⟩)
  exact bodyPost_ret (v := .nilIface) (by simp [results, Tryd.results51, go_sem]) rfl ⟨rfl, h1, h2⟩
theorem norm_suffix (ds : List UInt8) (hds : Num ds) (neg : Bool) (n : Nat) (i : Int) (TK : ByteArray) (B c : Nat) (w : World) (_hBw : B ≤ w.heap.size) (L : St)
    (HF : Calls Tryd.prog 69 #[.string (bs ds), .bool neg, .int .i64 (n : Int), .map (some c)] w (Done B c L w)) :
    Calls Tryd.prog 51 #[.int .i64 (n : Int), .int .i64 i, .string TK, .string (bs (ds ++ [45])), .bool neg, .map (some c)] w (Done B c L w) := by
  have h4 := hds.four
  obtain ⟨S, hS⟩ : ∃ S, S = bs (ds ++ [45]) := ⟨_, rfl⟩
  have hsz : S.size = ds.length + 1 := by rw [hS, bs_size]; simp
  obtain ⟨x0, hx0, g0, g1⟩ : ∃ x0 : Int, ((S[0]'(by omega)).toNat : Int) = x0 ∧ 49 ≤ x0 ∧ x0 ≤ 57 := by
    subst hS
    obtain ⟨c, r, rfl, h1, h2⟩ := hds.cons
    exact ⟨c.toNat, rfl, by omega, by omega⟩
  have e1 : (x0 == 45) = false := beq_eq_false_iff_ne.2 (by omega)
  have e2 : (x0 == 108) = false := beq_eq_false_iff_ne.2 (by omega)
  have HSuf := fun W => suffix_calls (ds ++ [45]) (by simp) (by simp; omega) W
  have hsuf : (List.drop ((ds ++ [45]).length - 1) (ds ++ [45]) == [45]) = true := by
    rw [List.drop_left' (by simp)]; rfl
  rw [hsuf, ← hS] at HSuf
  have HSuf := Lib.hid HSuf
  have hx := bs_extract (ds ++ [45]) 0 ds.length
  have hx' : S.extract 0 ds.length = bs ds := by rw [hS, hx, List.take_left' rfl]; rfl
  have HF := Lib.hid HF
  clear hx hsuf hds
  rw [← hS]
  clear hS
  generalize bs ds = T at *
  go_enter Tryd.func51, Tryd.ntmps51
  go_wp2_with (first | (go_at_call 44; refine (HSuf.out _).mono ?_; rintro e w8 ⟨rfl, rfl⟩) | (go_at_call 69; refine HF.out.mono ?_; rintro e w9 ⟨rfl, h1, h2⟩))
  exact bodyPost_ret (v := .nilIface) (by simp [results, Tryd.results51, go_sem]) rfl ⟨rfl, h1, h2⟩

theorem norm_range (v : List UInt8) (hv : v.length ≤ 100) (c0 : UInt8) (r0 : List UInt8) (hv0 : v = c0 :: r0) (hc0 : 49 ≤ c0.toNat ∧ c0.toNat ≤ 57) (hsuf : (List.drop (v.length - 1) v == [45]) = false) (parts : List (List UInt8)) (hp : splitL 45 v = parts) (h2 : 2 ≤ parts.length) (neg : Bool) (n : Nat) (i : Int) (TK : ByteArray) (B c : Nat) (w : World) (hBw : B ≤ w.heap.size) (L : St)
    (HF : ∀ g cap W, (∀ i p, parts[i]? = some p → W.cell? ⟨g, i, none⟩ = some (.string (bs p))) → Below w.heap.size w W → Calls Tryd.prog 71 #[.slice (some ⟨g, 0, none⟩) parts.length cap, .int .i64 (n : Int), .bool neg, .map (some c)] W (Done B c L W)) :
    Calls Tryd.prog 51 #[.int .i64 (n : Int), .int .i64 i, .string TK, .string (bs v), .bool neg, .map (some c)] w (Done B c L w) := by
  have hlen : 0 < v.length := by rw [hv0]; simp
  obtain ⟨S, hS⟩ : ∃ S, S = bs v := ⟨_, rfl⟩
  have hsz : S.size = v.length := by rw [hS, bs_size]
  obtain ⟨x0, hx0, g0, g1⟩ : ∃ x0 : Int, ((S[0]'(by omega)).toNat : Int) = x0 ∧ 49 ≤ x0 ∧ x0 ≤ 57 := by
    subst hS
    subst hv0
    exact ⟨c0.toNat, rfl, by omega, by omega⟩
  have e1 : (x0 == 45) = false := beq_eq_false_iff_ne.2 (by omega)
  have e2 : (x0 == 108) = false := beq_eq_false_iff_ne.2 (by omega)
  have HSuf := fun W => suffix_calls v hlen (by omega) W
  rw [hsuf, ← hS] at HSuf
  have HSuf := Lib.hid HSuf
  have HS := (fun W => split_cells v parts hp (by intro h; rw [h] at h2; simp at h2) (by omega) W)
  rw [← hS] at HS
  have HS := Lib.hid HS
  have HF := Lib.hid HF
  clear hsuf hv0 hp
  rw [← hS]
  clear hS
  generalize hNP : parts.length = NP at *
  go_enter Tryd.func51, Tryd.ntmps51
  go_wp2_with (first | (go_at_call 44; refine (HSuf.out _).mono ?_; rintro e w8 ⟨rfl, rfl⟩) | (go_at_call 47; with_reducible refine (HS.out _).mono ?_; rintro e w2 ⟨g, cap, rfl, hcl, hb2⟩; have hs2 := hb2.size; have HF2 := Lib.hid (HF.out g cap w2 hcl hb2); clear hcl) | (go_at_call 71; refine HF2.out.mono ?_; rintro e w9 ⟨rfl, h1, h2⟩))
  exact bodyPost_ret (v := .nilIface) (by simp [results, Tryd.results51, go_sem]) rfl ⟨rfl, h1, (hb2.mono hBw).trans h2⟩

theorem norm_page (v : List UInt8) (hv : v.length ≤ 100) (c0 : UInt8) (r0 : List UInt8) (hv0 : v = c0 :: r0) (hc0 : 49 ≤ c0.toNat ∧ c0.toNat ≤ 57) (hsuf : (List.drop (v.length - 1) v == [45]) = false) (hp : splitL 45 v = [v]) (neg : Bool) (n : Nat) (i : Int) (TK : ByteArray) (B c : Nat) (w : World) (hBw : B ≤ w.heap.size) (L : St)
    (HF : ∀ W, Below w.heap.size w W → Calls Tryd.prog 70 #[.string (bs v), .bool neg, .int .i64 (n : Int), .map (some c)] W (Done B c L W)) :
    Calls Tryd.prog 51 #[.int .i64 (n : Int), .int .i64 i, .string TK, .string (bs v), .bool neg, .map (some c)] w (Done B c L w) := by
  have hlen : 0 < v.length := by rw [hv0]; simp
  obtain ⟨S, hS⟩ : ∃ S, S = bs v := ⟨_, rfl⟩
  have hsz : S.size = v.length := by rw [hS, bs_size]
  obtain ⟨x0, hx0, g0, g1⟩ : ∃ x0 : Int, ((S[0]'(by omega)).toNat : Int) = x0 ∧ 49 ≤ x0 ∧ x0 ≤ 57 := by
    subst hS
    subst hv0
    exact ⟨c0.toNat, rfl, by omega, by omega⟩
  have e1 : (x0 == 45) = false := beq_eq_false_iff_ne.2 (by omega)
  have e2 : (x0 == 108) = false := beq_eq_false_iff_ne.2 (by omega)
  have HSuf := fun W => suffix_calls v hlen (by omega) W
  rw [hsuf, ← hS] at HSuf
  have HSuf := Lib.hid HSuf
  have HS := (fun W => split_cells v [v] hp (by simp) (by omega) W)
  rw [← hS] at HS
  have HS := Lib.hid HS
  rw [← hS] at HF
  have HF := Lib.hid HF
  have HU := Lib.hid hS.symm
  clear hsuf hv0 hp
  rw [← hS]
  clear hS
  
  go_enter Tryd.func51, Tryd.ntmps51
  go_wp2_with (first | (go_at_call 44; refine (HSuf.out _).mono ?_; rintro e w8 ⟨rfl, rfl⟩) | (go_at_call 47; with_reducible refine (HS.out _).mono ?_; rintro e w2 ⟨g, cap, rfl, hcl, hb2⟩; have hs2 := hb2.size; have k0 := hcl 0 v rfl; have HF2 := Lib.hid (HF.out w2 hb2); rw [HU.out] at k0; clear hcl) | (go_at_call 70; refine HF2.out.mono ?_; rintro e w9 ⟨rfl, h1, h2⟩))
  exact bodyPost_ret (v := .nilIface) (by simp [results, Tryd.results51, go_sem]) rfl ⟨rfl, h1, (hb2.mono hBw).trans h2⟩

end Go.Proofs.YthfihamhkhnckaaDoor.Sel

namespace Go.Proofs.YthfihamhkhnckaaDoor.Sel
open Go.Maps Go.RowKit Go.ChangeShapes Go.Proofs.YthfihamhkhnckaaDoorW.PrintWords

set_option maxHeartbeats 1000000

/-- A page of which nothing was said selected. -/
def sel1 (p : Int) (l : St) : St := if (l.f p).isSome then l else proc false p l
/-- Every second page. -/
def evN : Nat → Int → St → St
  | 0, _, l => l
  | k + 1, a, l => sel1 (a + 2 * (k : Int)) (evN k a l)
theorem evN_length (k : Nat) (a : Int) (l : St) : (evN k a l).n ≤ l.n + k := by
  induction k with
  | zero => exact Nat.le_refl _
  | succ k ih =>
    simp only [evN, sel1]
    split
    · omega
    · simp only [proc]; omega
set_option maxRecDepth 100000 in
theorem even_calls (l : St) (n : Nat) (hn : n ≤ 1000) (hl : l.n ≤ 900000) (B c : Nat) (w : World) (H : Cp B c l w) (hBw : B ≤ w.heap.size) :
    Calls Tryd.prog 49 #[.map (some c), .int .i64 (n : Int)] w fun e w' => e = .returned (.tuple #[]) ∧ Cp B c (evN (n / 2) 2 l) w' ∧ Below B w w' := by
  have HC := Lib.hid H
  clear H
  go_enter Tryd.func49, Tryd.ntmps49
  go_wp2_with fail
  go_loopw [4] (fun v wr => ∃ k : Nat, v = .int .i64 (2 + 2 * (k : Int)) ∧ k ≤ n / 2 ∧ Hid (Cp B c (evN k 2 l) wr) ∧ Hid (Below B w wr)) (fun v _ => n + 2 - (intOf v).toNat)
  case atStart => exact ⟨0, by simp, by omega, HC, Lib.hid (Below.refl _ _)⟩
  case round =>
    obtain ⟨k, rfl, hk, hC, hb⟩ := hrel
    have hsz := hb.out.size
    have hel := evN_length k 2 l
    by_cases hlt : k < n / 2
    · have hle : 2 + 2 * (k : Int) ≤ (n : Int) := by omega
      have hp0 : 0 ≤ 2 + 2 * (k : Int) := by omega
      have hp1 : 2 + 2 * (k : Int) ≤ 1000 := by omega
      have hB9 : B ≤ wr.heap.size := by omega
      have hle2 : (2 + 2 * (k : Int)).toNat ≤ n := by omega
      have hevs : evN (k + 1) 2 l = sel1 (2 + 2 * (k : Int)) (evN k 2 l) := rfl
      have hlen : (evN k 2 l).n ≤ 2000000 := by omega
      clear hel
      generalize evN k 2 l = l' at *
      generalize hp : 2 + 2 * (k : Int) = p at *
      have HP2 := Lib.hid hp
      clear hp
      cases hf : l'.f p with
      | some b =>
        have hev2 : sel1 p l' = l' := if_pos (by rw [hf]; rfl)
        have hs1 : (l'.f p).isSome = true := by rw [hf]; rfl
        clear hf
        go_wp2_with (at_lookup; refine look_ok Tryd.underlying44 _ rfl (.tmp 13) (.tmp 14) rfl hC.out p (WalkArith.wf_i64 (by omega)) rfl rfl ?_; rw [hs1])
        exact ⟨⟨k + 1, by have := HP2.out; simp; omega, by omega, by rw [hevs, hev2]; exact hC, hb⟩, by have := HP2.out; simp [intOf]; omega⟩
      | none =>
        have hev2 : sel1 p l' = proc false p l' := if_neg (by rw [hf]; simp)
        have hs1 : (l'.f p).isSome = false := by rw [hf]; rfl
        clear hf
        go_wp2_with (first
          | (at_lookup; refine look_ok Tryd.underlying44 _ rfl (.tmp 13) (.tmp 14) rfl hC.out p (WalkArith.wf_i64 (by omega)) rfl rfl ?_; rw [hs1])
          | (at_mapUpdate; refine upd Tryd.underlying44 _ rfl (.tmp 20) (.tmp 21) (.const (.bool true)) rfl hC.out hB9 hlen p (WalkArith.wf_i64 (by omega)) false rfl rfl rfl ?_; intro w9 h1 h2))
        exact ⟨⟨k + 1, by have := HP2.out; simp; omega, by omega, by rw [hevs, hev2]; exact Lib.hid h1, Lib.hid (hb.out.trans h2)⟩, by have := HP2.out; simp [intOf]; omega⟩
    · have hke : k = n / 2 := by omega
      have hgt : ¬ (2 + 2 * (k : Int) ≤ (n : Int)) := by omega
      go_wp2_with fail
      go_end0
      exact ⟨rfl, by rw [← hke]; exact hC.out, hb.out⟩
set_option maxRecDepth 100000 in
theorem odd_calls (l : St) (n : Nat) (hn : n ≤ 1000) (hl : l.n ≤ 900000) (B c : Nat) (w : World) (H : Cp B c l w) (hBw : B ≤ w.heap.size) :
    Calls Tryd.prog 50 #[.map (some c), .int .i64 (n : Int)] w fun e w' => e = .returned (.tuple #[]) ∧ Cp B c (evN ((n + 1) / 2) 1 l) w' ∧ Below B w w' := by
  have HC := Lib.hid H
  clear H
  go_enter Tryd.func50, Tryd.ntmps50
  go_wp2_with fail
  go_loopw [4] (fun v wr => ∃ k : Nat, v = .int .i64 (1 + 2 * (k : Int)) ∧ k ≤ (n + 1) / 2 ∧ Hid (Cp B c (evN k 1 l) wr) ∧ Hid (Below B w wr)) (fun v _ => n + 2 - (intOf v).toNat)
  case atStart => exact ⟨0, by simp, by omega, HC, Lib.hid (Below.refl _ _)⟩
  case round =>
    obtain ⟨k, rfl, hk, hC, hb⟩ := hrel
    have hsz := hb.out.size
    have hel := evN_length k 1 l
    by_cases hlt : k < (n + 1) / 2
    · have hle : 1 + 2 * (k : Int) ≤ (n : Int) := by omega
      have hp0 : 0 ≤ 1 + 2 * (k : Int) := by omega
      have hp1 : 1 + 2 * (k : Int) ≤ 1000 := by omega
      have hB9 : B ≤ wr.heap.size := by omega
      have hle2 : (1 + 2 * (k : Int)).toNat ≤ n := by omega
      have hevs : evN (k + 1) 1 l = sel1 (1 + 2 * (k : Int)) (evN k 1 l) := rfl
      have hlen : (evN k 1 l).n ≤ 2000000 := by omega
      clear hel
      generalize evN k 1 l = l' at *
      generalize hp : 1 + 2 * (k : Int) = p at *
      have HP2 := Lib.hid hp
      clear hp
      cases hf : l'.f p with
      | some b =>
        have hev2 : sel1 p l' = l' := if_pos (by rw [hf]; rfl)
        have hs1 : (l'.f p).isSome = true := by rw [hf]; rfl
        clear hf
        go_wp2_with (at_lookup; refine look_ok Tryd.underlying44 _ rfl (.tmp 13) (.tmp 14) rfl hC.out p (WalkArith.wf_i64 (by omega)) rfl rfl ?_; rw [hs1])
        exact ⟨⟨k + 1, by have := HP2.out; simp; omega, by omega, by rw [hevs, hev2]; exact hC, hb⟩, by have := HP2.out; simp [intOf]; omega⟩
      | none =>
        have hev2 : sel1 p l' = proc false p l' := if_neg (by rw [hf]; simp)
        have hs1 : (l'.f p).isSome = false := by rw [hf]; rfl
        clear hf
        go_wp2_with (first
          | (at_lookup; refine look_ok Tryd.underlying44 _ rfl (.tmp 13) (.tmp 14) rfl hC.out p (WalkArith.wf_i64 (by omega)) rfl rfl ?_; rw [hs1])
          | (at_mapUpdate; refine upd Tryd.underlying44 _ rfl (.tmp 20) (.tmp 21) (.const (.bool true)) rfl hC.out hB9 hlen p (WalkArith.wf_i64 (by omega)) false rfl rfl rfl ?_; intro w9 h1 h2))
        exact ⟨⟨k + 1, by have := HP2.out; simp; omega, by omega, by rw [hevs, hev2]; exact Lib.hid h1, Lib.hid (hb.out.trans h2)⟩, by have := HP2.out; simp [intOf]; omega⟩
    · have hke : k = (n + 1) / 2 := by omega
      have hgt : ¬ (1 + 2 * (k : Int) ≤ (n : Int)) := by omega
      go_wp2_with fail
      go_end0
      exact ⟨rfl, by rw [← hke]; exact hC.out, hb.out⟩
set_option maxRecDepth 100000 in
theorem handle_even (i : Int) (l : St) (n : Nat) (hn : n ≤ 1000) (hl : l.n ≤ 900000) (B c : Nat) (w : World) (H : Cp B c l w) (hBw : B ≤ w.heap.size) :
    Calls Tryd.prog 39 #[.int .i64 (n : Int), .int .i64 i, .string (bs [101, 118, 101, 110]), .map (some c)] w (Done B c (evN (n / 2) 2 l) w) := by
  have e0 : ((bs [101, 118, 101, 110]).toList == []) = false := by rw [bs_toList]; rfl
  have e1 : ((bs [101, 118, 101, 110]).toList == [101, 118, 101, 110]) = true := by rw [bs_toList]; rfl
  have e2 : ((bs [101, 118, 101, 110]).toList == [111, 100, 100]) = false := by rw [bs_toList]; rfl
  generalize bs [101, 118, 101, 110] = S at *
  have HF := Lib.hid (even_calls l n hn hl B c w H hBw)
  clear H
  go_enter Tryd.func39, Tryd.ntmps39
  go_wp2_with (go_at_call 49; refine HF.out.mono ?_; rintro e w9 ⟨rfl, h1, h2⟩)
  exact bodyPost_ret (v := .nilIface) (by simp [results, Tryd.results39, go_sem]) rfl ⟨rfl, h1, h2⟩

set_option maxRecDepth 100000 in
theorem handle_odd (i : Int) (l : St) (n : Nat) (hn : n ≤ 1000) (hl : l.n ≤ 900000) (B c : Nat) (w : World) (H : Cp B c l w) (hBw : B ≤ w.heap.size) :
    Calls Tryd.prog 39 #[.int .i64 (n : Int), .int .i64 i, .string (bs [111, 100, 100]), .map (some c)] w (Done B c (evN ((n + 1) / 2) 1 l) w) := by
  have e0 : ((bs [111, 100, 100]).toList == []) = false := by rw [bs_toList]; rfl
  have e1 : ((bs [111, 100, 100]).toList == [101, 118, 101, 110]) = false := by rw [bs_toList]; rfl
  have e2 : ((bs [111, 100, 100]).toList == [111, 100, 100]) = true := by rw [bs_toList]; rfl
  generalize bs [111, 100, 100] = S at *
  have HF := Lib.hid (odd_calls l n hn hl B c w H hBw)
  clear H
  go_enter Tryd.func39, Tryd.ntmps39
  go_wp2_with (go_at_call 50; refine HF.out.mono ?_; rintro e w9 ⟨rfl, h1, h2⟩)
  exact bodyPost_ret (v := .nilIface) (by simp [results, Tryd.results39, go_sem]) rfl ⟨rfl, h1, h2⟩

theorem handle_plain (x : UInt8) (r : List UInt8) (hx : x ≠ 33 ∧ x ≠ 110) (hn : (x :: r) ≠ [101, 118, 101, 110] ∧ (x :: r) ≠ [111, 100, 100]) (n : Nat) (i : Int) (B c : Nat) (w : World) (L : St)
    (HF : Calls Tryd.prog 51 #[.int .i64 (n : Int), .int .i64 i, .string (bs (x :: r)), .string (bs (x :: r)), .bool false, .map (some c)] w (Done B c L w)) :
    Calls Tryd.prog 39 #[.int .i64 (n : Int), .int .i64 i, .string (bs (x :: r)), .map (some c)] w (Done B c L w) := by
  have e0 : ((bs (x :: r)).toList == []) = false := by rw [bs_toList]; rfl
  have e1 : ((bs (x :: r)).toList == [101, 118, 101, 110]) = false := by rw [bs_toList]; exact beq_eq_false_iff_ne.2 hn.1
  have e2 : ((bs (x :: r)).toList == [111, 100, 100]) = false := by rw [bs_toList]; exact beq_eq_false_iff_ne.2 hn.2
  obtain ⟨S, hS⟩ : ∃ S, S = bs (x :: r) := ⟨_, rfl⟩
  have hsz : S.size = r.length + 1 := by rw [hS, bs_size]; rfl
  obtain ⟨x0, hx0, g0, g1⟩ : ∃ x0 : Int, ((S[0]'(by omega)).toNat : Int) = x0 ∧ (x0 == 33) = false ∧ (x0 == 110) = false := by
    subst hS
    refine ⟨(x.toNat : Int), rfl, ?_, ?_⟩
    · rw [beq_eq_false_iff_ne]; intro e; exact hx.1 (UInt8.toNat_inj.1 (Int.ofNat.inj e))
    · rw [beq_eq_false_iff_ne]; intro e; exact hx.2 (UInt8.toNat_inj.1 (Int.ofNat.inj e))
  rw [← hS] at HF e0 e1 e2 ⊢
  have HN := Lib.hid (fun W => negation_no x0 g0 g1 W)
  have HF := Lib.hid HF
  clear hS hx hn
  go_enter Tryd.func39, Tryd.ntmps39
  go_wp2_with (first | (go_at_call 37; refine (HN.out _).mono ?_; rintro e w8 ⟨rfl, rfl⟩) | (go_at_call 51; refine HF.out.mono ?_; rintro e w9 ⟨rfl, h1, h2⟩))
  exact bodyPost_ret (v := .nilIface) (by simp [results, Tryd.results39, go_sem]) rfl ⟨rfl, h1, h2⟩
theorem handle_away (x : UInt8) (r : List UInt8) (hr : r ≠ []) (hx : x = 33 ∨ x = 110) (n : Nat) (i : Int) (B c : Nat) (w : World) (L : St)
    (HF : Calls Tryd.prog 51 #[.int .i64 (n : Int), .int .i64 i, .string (bs (x :: r)), .string (bs r), .bool true, .map (some c)] w (Done B c L w)) :
    Calls Tryd.prog 39 #[.int .i64 (n : Int), .int .i64 i, .string (bs (x :: r)), .map (some c)] w (Done B c L w) := by
  have hne : (x ≠ 101 ∧ x ≠ 111) := by rcases hx with rfl | rfl <;> decide
  have e0 : ((bs (x :: r)).toList == []) = false := by rw [bs_toList]; rfl
  have e1 : ((bs (x :: r)).toList == [101, 118, 101, 110]) = false := by rw [bs_toList]; exact beq_eq_false_iff_ne.2 (fun h => hne.1 (by injection h))
  have e2 : ((bs (x :: r)).toList == [111, 100, 100]) = false := by rw [bs_toList]; exact beq_eq_false_iff_ne.2 (fun h => hne.2 (by injection h))
  have e3 : ((bs r).toList == []) = false := by rw [bs_toList]; exact beq_eq_false_iff_ne.2 hr
  obtain ⟨S, hS⟩ : ∃ S, S = bs (x :: r) := ⟨_, rfl⟩
  have hsz : S.size = r.length + 1 := by rw [hS, bs_size]; rfl
  obtain ⟨x0, hx0, g0⟩ : ∃ x0 : Int, ((S[0]'(by omega)).toNat : Int) = x0 ∧ (x0 = 33 ∨ x0 = 110) := by
    subst hS
    exact ⟨(x.toNat : Int), rfl, by rcases hx with rfl | rfl <;> simp⟩
  have hxx := bs_extract (x :: r) 1 (r.length + 1)
  rw [List.take_of_length_le (by simp)] at hxx
  have hx' : S.extract 1 (r.length + 1) = bs r := by rw [hS]; exact hxx
  rw [← hS] at HF e0 e1 e2 ⊢
  have HN := Lib.hid (fun W => negation_yes x0 g0 W)
  have HF := Lib.hid HF
  clear hS hx hne hxx g0 hr
  generalize bs r = T at *
  go_enter Tryd.func39, Tryd.ntmps39
  go_wp2_with (first | (go_at_call 37; refine (HN.out _).mono ?_; rintro e w8 ⟨rfl, rfl⟩) | (go_at_call 51; refine HF.out.mono ?_; rintro e w9 ⟨rfl, h1, h2⟩))
  exact bodyPost_ret (v := .nilIface) (by simp [results, Tryd.results39, go_sem]) rfl ⟨rfl, h1, h2⟩

end Go.Proofs.YthfihamhkhnckaaDoor.Sel

namespace Go.Proofs.YthfihamhkhnckaaDoor.Sel
open Go.Maps Go.RowKit Go.ChangeShapes Go.Proofs.YthfihamhkhnckaaDoorW.PrintWords

set_option maxHeartbeats 1000000

/-- A token's effect on the map. -/
structure Eff (n : Nat) (tok : List UInt8) (F : St → St) : Prop where
  grow : ∀ l, (F l).n ≤ l.n + 1000
  calls : ∀ (i : Int) (l : St) (B c : Nat) (w : World), l.n ≤ 900000 → Cp B c l w → B ≤ w.heap.size → Calls Tryd.prog 39 #[.int .i64 (n : Int), .int .i64 i, .string (bs tok), .map (some c)] w (Done B c (F l) w)
def St.new : St := ⟨0, fun _ => none⟩
/-- What is said ahead of every token: each token has its effect. -/
structure Run (n : Nat) (ts : List (List UInt8)) (M : Nat → St) : Prop where
  zero : M 0 = St.new
  step : ∀ i (h : i < ts.length), ∃ F, Eff n (ts[i]'h) F ∧ M (i + 1) = F (M i)
theorem Run.small {n : Nat} {ts : List (List UInt8)} {M : Nat → St} (h : Run n ts M) : ∀ k, k ≤ ts.length → (M k).n ≤ k * 1000 := by
  intro k
  induction k with
  | zero => intro _; rw [h.zero]; simp [St.new]
  | succ k ih =>
    intro hk
    obtain ⟨F, hF, he⟩ := h.step k hk
    have h1 := hF.grow (M k)
    have h2 := ih (by omega)
    rw [he]
    omega
theorem Rd.new : Rd (.map []) St.new.f := ⟨isMap_empty, fun _ => rfl, fun _ _ h => by cases h⟩
/-- A map made anew says nothing. -/
theorem Cp.made (w : World) (B : Nat) (hB : B ≤ w.heap.size) : Cp B w.heap.size St.new (w.alloc (.map #[] 0)) := ⟨hB, _, World.ownsMap_made w _ _ _, Rd.new⟩
set_option maxRecDepth 100000 in
theorem calc_calls (n : Nat) (M : Nat → St) (ts : List (List UInt8)) (hts : ts.length ≤ 100) (hE : Run n ts M) (A : Option Addr) (cap : Nat) (B c : Nat) (w : World) (H : Cp B c St.new w) (hBw : B ≤ w.heap.size)
    (hcell : ∀ i (h : i < ts.length), ∃ ad, A = some ad ∧ (ad.add i).block < B ∧ w.cell? (ad.add i) = some (.string (bs (ts[i]'h)))) :
    Calls Tryd.prog 32 #[.int .i64 (n : Int), .slice A ts.length cap, .map (some c)] w (Done B c (M ts.length) w) := by
  go_enter Tryd.func32, Tryd.ntmps32
  go_wp2_with fail
  go_loopw [12] (fun vi wr => ∃ k : Nat, vi = .int .i64 (k : Int) ∧ k ≤ ts.length ∧ Hid (Cp B c (M k) wr) ∧ Hid (Below B w wr)) (fun vi _ => ts.length - (intOf vi).toNat)
  case atStart => exact ⟨0, rfl, by omega, Lib.hid (by rw [hE.zero]; exact H), Lib.hid (Below.refl _ _)⟩
  case round =>
    obtain ⟨k, rfl, hk, hC, hb⟩ := hrel
    have hsz := hb.out.size
    have hsB : B ≤ wr.heap.size := by omega
    by_cases hlt : k < ts.length
    · obtain ⟨ad, rfl, hbl, hcl⟩ := hcell k hlt
      have hcl := (hb.out.cell hbl).trans hcl
      have hel := hE.small k (by omega)
      obtain ⟨F, hF, hst⟩ := hE.step k hlt
      have HP := Lib.hid (hF.calls (k : Int) (M k) B c wr (by omega) hC.out hsB)
      rw [← hst] at HP
      generalize bs (ts[k]'hlt) = T at *
      have hcell := Lib.hid hcell
      clear hst hel hE hF hbl
      go_wp2_with (go_at_call 39; refine HP.out.mono ?_; rintro e w9 ⟨rfl, h1, h2⟩)
      exact ⟨⟨k + 1, by simp, by omega, Lib.hid h1, Lib.hid (hb.out.trans h2)⟩, by simp [intOf]; omega⟩
    · obtain rfl : k = ts.length := by omega
      have hge : ¬ ((ts.length : Int) < (ts.length : Int)) := by omega
      clear hcell
      go_wp2_with fail
      exact bodyPost_ret (v := .nilIface) (by simp [results, Tryd.results32, go_sem]) rfl ⟨rfl, hC.out, hb.out⟩
set_option maxRecDepth 100000 in
theorem selected_calls (n : Nat) (M : Nat → St) (ts : List (List UInt8)) (hts : ts.length ≤ 100) (hE : Run n ts M) (A : Option Addr) (cap : Nat) (x : Bool) (w : World)
    (hcell : ∀ i (h : i < ts.length), ∃ ad, A = some ad ∧ w.cell? (ad.add i) = some (.string (bs (ts[i]'h)))) :
    Calls Tryd.prog 29 #[.int .i64 (n : Int), .slice A ts.length cap, .bool x] w fun e w' => e = .returned (.tuple #[.map (some w.heap.size), .nilIface]) ∧ Cp w.heap.size w.heap.size (M ts.length) w' ∧ Below w.heap.size w w' := by
  have hmm := @run_makeMap Tryd.prog
  have HB := Lib.hid ((Below.refl _ w).alloc (Nat.le_refl _) (.map #[] 0))
  have HC := Lib.hid (calc_calls n M ts hts hE A cap w.heap.size w.heap.size (w.alloc (.map #[] 0)) (Cp.made w w.heap.size (Nat.le_refl _)) HB.out.size (fun i h => by
    obtain ⟨ad, h1, h2⟩ := hcell i h
    have h3 := World.block_lt_of_cell? w _ h2
    exact ⟨ad, h1, h3, (HB.out.cell h3).trans h2⟩))
  clear hcell hE
  go_enter Tryd.func29, Tryd.ntmps29
  go_wp2_with (go_at_call 32; refine HC.out.mono ?_; rintro e w9 ⟨rfl, h1, h2⟩)
  exact bodyPost_ret (v := .tuple #[.map (some w.heap.size), .nilIface]) (by simp [results, Tryd.results29, go_sem]) rfl ⟨rfl, h1, HB.out.trans h2⟩
set_option maxRecDepth 100000 in
/-- Parts told: what they say. -/
theorem pages_some (n : Nat) (M : Nat → St) (ts : List (List UInt8)) (hts : ts.length ≤ 100) (h0 : 0 < ts.length) (hE : Run n ts M) (A : Option Addr) (cap : Nat) (x : Bool) (w : World)
    (hcell : ∀ i (h : i < ts.length), ∃ ad, A = some ad ∧ w.cell? (ad.add i) = some (.string (bs (ts[i]'h)))) :
    Calls Tryd.prog 21 #[.int .i64 (n : Int), .slice A ts.length cap, .bool x, .bool false] w fun e w' => ∃ m, e = .returned (.tuple #[m, .nilIface]) ∧ (m = .map (some w.heap.size) ∧ Cp w.heap.size w.heap.size (M ts.length) w') ∧ Below w.heap.size w w' := by
  have HC := Lib.hid (selected_calls n M ts hts hE A cap false w hcell)
  have z1 : decide (0 < (ts.length : Int)) = true := decide_eq_true (by omega)
  have z2 : decide (0 < ts.length) = true := decide_eq_true h0
  clear hcell hE
  go_enter Tryd.func21, Tryd.ntmps21
  go_wp2_with (go_at_call 29; refine HC.out.mono ?_; rintro e w9 ⟨rfl, h1, h2⟩)
  exact bodyPost_ret (v := .tuple #[.map (some w.heap.size), .nilIface]) (by simp [results, Tryd.results21, go_sem]) rfl ⟨_, rfl, ⟨rfl, h1⟩, h2⟩
set_option maxRecDepth 100000 in
/-- No parts, not all pages: no map. -/
theorem pages_none (n : Nat) (A : Option Addr) (cap : Nat) (w : World) :
    Calls Tryd.prog 21 #[.int .i64 (n : Int), .slice A 0 cap, .bool false, .bool false] w fun e w' => e = .returned (.tuple #[.map none, .nilIface]) ∧ w' = w := by
  go_enter Tryd.func21, Tryd.ntmps21
  go_wp2_with fail
  exact bodyPost_ret (v := .tuple #[.map none, .nilIface]) (by simp [results, Tryd.results21, go_sem]) rfl ⟨rfl, rfl⟩
set_option maxRecDepth 100000 in
/-- No parts, all pages. -/
theorem pages_all (n : Nat) (hn : n ≤ 1000) (A : Option Addr) (cap : Nat) (w : World) :
    Calls Tryd.prog 21 #[.int .i64 (n : Int), .slice A 0 cap, .bool true, .bool false] w fun e w' => e = .returned (.tuple #[.map (some w.heap.size), .nilIface]) ∧ Cp w.heap.size w.heap.size (procN false n 1 St.new) w' ∧ Below w.heap.size w w' := by
  have hmm := @run_makeMap Tryd.prog
  have HB := Lib.hid ((Below.refl _ w).alloc (Nat.le_refl _) (.map #[] 0))
  have HC := Lib.hid (Cp.made w w.heap.size (Nat.le_refl _))
  go_enter Tryd.func21, Tryd.ntmps21
  go_wp2_with fail
  go_loopw [11] (fun v wr => ∃ k : Nat, v = .int .i64 (1 + (k : Int)) ∧ k ≤ n ∧ Hid (Cp w.heap.size w.heap.size (procN false k 1 St.new) wr) ∧ Hid (Below w.heap.size w wr)) (fun v _ => n - (intOf v - 1).toNat)
  case atStart => exact ⟨0, by simp, by omega, HC, HB⟩
  case round =>
    obtain ⟨k, rfl, hk, hC, hb⟩ := hrel
    have hsz := hb.out.size
    have hpl := procN_length false k 1 St.new
    by_cases hlt : k < n
    · have hl9 := Nat.le_trans hpl (show St.new.n + k ≤ 2000000 by simp [St.new]; omega)
      go_wp2_with (at_mapUpdate; refine upd Tryd.underlying44 _ rfl (.tmp 29) (.tmp 30) (.const (.bool true)) rfl hC.out hsz hl9 (1 + (k : Int)) (WalkArith.wf_i64 (by omega)) false rfl rfl rfl ?_; intro w9 h1 h2)
      exact ⟨⟨k + 1, by simp; omega, by omega, Lib.hid h1, Lib.hid (hb.out.trans h2)⟩, by simp [intOf]; omega⟩
    · have hke : k = n := by omega
      go_wp2_with fail
      exact bodyPost_ret (v := .tuple #[.map (some w.heap.size), .nilIface]) (by simp [results, Tryd.results21, go_sem]) rfl ⟨rfl, by rw [← hke]; exact hC.out, hb.out⟩
end Go.Proofs.YthfihamhkhnckaaDoor.Sel
