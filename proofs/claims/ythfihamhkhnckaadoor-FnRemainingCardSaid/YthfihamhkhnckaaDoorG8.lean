/-
FnCollected, FnSelected, FnRemaining: the selected pages sorted; impl.Selected, what remains: walks and plain laws. Conditions: as each theorem says.
-/
import Derived.Test.YthfihamhkhnckaaDoorG1
import Derived.Shelf.Sort.Plain
import Derived.Sort.OwnSorted
import Derived.Sort.OwnSortedInts
import Derived.Test.YthfihamhkhnckaaDoorG7
import Derived.Maps.RangeWalk
import Derived.Test.YthfihamhkhnckaaDoorG3
import Derived.Test.YthfihamhkhnckaaDoorG6
import Derived.WalkKit
import Derived.Defers
import Derived.Recover
import Derived.Laws.Pointers

namespace Go.Proofs.YthfihamhkhnckaaDoor.Sel
open Go.Shelf Go.Sort Go.RowKit

def sortsRen : Go.Shelf.Ren := ⟨fun | 191 => 30 | 189 => 33 | 125 => 41 | 257 => 40 | 128 => 61 | 129 => 62 | 294 => 52 | 295 => 53 | 296 => 54 | 297 => 55 | 298 => 56 | 299 => 57 | 216 => 58 | 300 => 59 | 301 => 60 | 328 => 72 | 329 => 73 | 330 => 74 | 331 => 75 | 332 => 76 | 215 => 77 | 343 => 82 | n => n, fun | 28 => 24 | 0 => 0 | 3 => 3 | 46 => 66 | 51 => 84 | 53 => 86 | 4 => 4 | 183 => 76 | 182 => 75 | 131 => 81 | 5 => 5 | 9 => 9 | 218 => 94 | 222 => 98 | 228 => 102 | 229 => 37 | n => n, fun n => n⟩
set_option maxRecDepth 100000 in
theorem sorts : Lays.n191 Tryd.prog sortsRen where
  mixed := by kernel_rfl
  f125 := Tryd.func41.trans (congrArg some (by kernel_rfl))
  f128 := Tryd.func61.trans (congrArg some (by kernel_rfl))
  f129 := Tryd.func62.trans (congrArg some (by kernel_rfl))
  f189 := Tryd.func33.trans (congrArg some (by kernel_rfl))
  f191 := Tryd.func30.trans (congrArg some (by kernel_rfl))
  f215 := Tryd.func77.trans (congrArg some (by kernel_rfl))
  f216 := Tryd.func58.trans (congrArg some (by kernel_rfl))
  f257 := Tryd.func40.trans (congrArg some (by kernel_rfl))
  f294 := Tryd.func52.trans (congrArg some (by kernel_rfl))
  f295 := Tryd.func53.trans (congrArg some (by kernel_rfl))
  f296 := Tryd.func54.trans (congrArg some (by kernel_rfl))
  f297 := Tryd.func55.trans (congrArg some (by kernel_rfl))
  f298 := Tryd.func56.trans (congrArg some (by kernel_rfl))
  f299 := Tryd.func57.trans (congrArg some (by kernel_rfl))
  f300 := Tryd.func59.trans (congrArg some (by kernel_rfl))
  f301 := Tryd.func60.trans (congrArg some (by kernel_rfl))
  f328 := Tryd.func72.trans (congrArg some (by kernel_rfl))
  f329 := Tryd.func73.trans (congrArg some (by kernel_rfl))
  f330 := Tryd.func74.trans (congrArg some (by kernel_rfl))
  f331 := Tryd.func75.trans (congrArg some (by kernel_rfl))
  f332 := Tryd.func76.trans (congrArg some (by kernel_rfl))
  f343 := Tryd.func82.trans (congrArg some (by kernel_rfl))
  t0 := Tryd.underlying0
  a0 := Tryd.isAgg0
  z0 := Tryd.sizeOf0
  v0 := Tryd.zeroValue0
  t3 := Tryd.underlying3
  a3 := Tryd.isAgg3
  z3 := Tryd.sizeOf3
  v3 := Tryd.zeroValue3
  t4 := Tryd.underlying4
  a4 := Tryd.isAgg4
  z4 := Tryd.sizeOf4
  v4 := Tryd.zeroValue4
  t5 := Tryd.underlying5
  a5 := Tryd.isAgg5
  z5 := Tryd.sizeOf5
  v5 := Tryd.zeroValue5
  t9 := Tryd.underlying9
  a9 := Tryd.isAgg9
  z9 := Tryd.sizeOf9
  v9 := Tryd.zeroValue9
  t28 := Tryd.underlying24
  a28 := Tryd.isAgg24
  z28 := Tryd.sizeOf24
  v28 := Tryd.zeroValue24
  t46 := Tryd.underlying66
  a46 := Tryd.isAgg66
  z46 := Tryd.sizeOf66
  v46 := Tryd.zeroValue66
  t51 := Tryd.underlying84
  a51 := Tryd.isAgg84
  z51 := Tryd.sizeOf84
  v51 := Tryd.zeroValue84
  t53 := Tryd.underlying86
  a53 := Tryd.isAgg86
  z53 := Tryd.sizeOf86
  v53 := Tryd.zeroValue86
  t131 := Tryd.underlying81
  a131 := Tryd.isAgg81
  z131 := Tryd.sizeOf81
  v131 := Tryd.zeroValue81
  t182 := Tryd.underlying75
  a182 := Tryd.isAgg75
  z182 := Tryd.sizeOf75
  v182 := Tryd.zeroValue75
  t183 := Tryd.underlying76
  a183 := Tryd.isAgg76
  z183 := Tryd.sizeOf76
  v183 := Tryd.zeroValue76
  t218 := Tryd.underlying94
  a218 := Tryd.isAgg94
  z218 := Tryd.sizeOf94
  v218 := Tryd.zeroValue94
  t222 := Tryd.underlying98
  a222 := Tryd.isAgg98
  z222 := Tryd.sizeOf98
  v222 := Tryd.zeroValue98
  t228 := Tryd.underlying102
  a228 := Tryd.isAgg102
  z228 := Tryd.sizeOf102
  v228 := Tryd.zeroValue102
  t229 := Tryd.underlying37
  a229 := Tryd.isAgg37
  z229 := Tryd.sizeOf37
  v229 := Tryd.zeroValue37
theorem sort_calls (blk off cap : Nat) (zs : List Int) (w : World) (hH : Holds (Value.int .i64) w blk off zs.toArray) (hblk : blk < w.heap.size) (hsz : zs.length < 4611686018427387904) :
    Calls Tryd.prog 30 #[.slice (some ⟨blk, off, none⟩) zs.length cap] w fun e w' =>
      e = .returned (.tuple #[]) ∧ ∃ n os, w' = grow (putRow (Value.int .i64) (Sort.ahead w n) blk off (zs.mergeSort fun x y => decide (x ≤ y)).toArray) os :=
  Any.sort_Ints sorts blk off cap zs w hH hblk hsz
end Go.Proofs.YthfihamhkhnckaaDoor.Sel

namespace Go.Proofs.YthfihamhkhnckaaDoor.Sel
open Go.Sort Go.RowKit Go.ChangeShapes Go.Proofs.YthfihamhkhnckaaDoorW.PrintWords

set_option maxRecDepth 100000 in
theorem len64_0 (w : World) : Calls Tryd.prog 62 #[.int .u64 0] w fun e w' => e = .returned (.int .i64 0) ∧ w' = w := by
  have h0 : Lib.len8 0 = 0 := by decide
  go_enter Tryd.func62, Tryd.ntmps62
  go_wp2_with fail
  refine bodyPost_ret (v := .int .i64 0) ?_ rfl ⟨rfl, rfl⟩
  simp [results, Tryd.results62, go_sem]
theorem len_0 (w : World) : Calls Tryd.prog 41 #[.int .u64 0] w fun e w' => e = .returned (.int .i64 0) ∧ w' = w := by
  go_enter Tryd.func41, Tryd.ntmps41
  go_wp2_with (go_at_call 62; refine (len64_0 _).mono ?_; rintro e w1 ⟨rfl, rfl⟩)
  go_ret
  exact ⟨rfl, rfl⟩
set_option maxRecDepth 100000 in
theorem insertion_0 (w : World) : Calls Tryd.prog 52 #[.slice none 0 0, .int .i64 0, .int .i64 0] w fun e w' => e = .returned (.tuple #[]) ∧ w' = w := by
  go_enter Tryd.func52, Tryd.ntmps52
  go_wp2_with fail
  refine wp_loop_rounds 1 ?_
  rw [rounds_succ]
  go_wp2_with fail
  go_end0
  exact ⟨rfl, rfl⟩
set_option maxRecDepth 100000 in
theorem pdq_0 (w : World) : Calls Tryd.prog 40 #[.slice none 0 0, .int .i64 0, .int .i64 0, .int .i64 0] w fun e w' => e = .returned (.tuple #[]) ∧ w' = w := by
  have HI := Lib.hid insertion_0
  go_enter Tryd.func40, Tryd.ntmps40
  go_wp2_with fail
  refine wp_loop_rounds 1 ?_
  rw [rounds_succ]
  go_wp2_with (go_at_call 52; refine (HI.out _).mono ?_; rintro e w1 ⟨rfl, rfl⟩)
  exact bodyPost_ret (v := .tuple #[]) (by simp [results, Tryd.results40, go_sem]) rfl ⟨rfl, rfl⟩
theorem sort_0 (w : World) : Calls Tryd.prog 33 #[.slice none 0 0] w fun e w' => e = .returned (.tuple #[]) ∧ w' = w := by
  have HI := Lib.hid pdq_0
  have HL := Lib.hid len_0
  go_enter Tryd.func33, Tryd.ntmps33
  go_wp2_with (first | (go_at_call 41; refine (HL.out _).mono ?_; rintro e w1 ⟨rfl, rfl⟩) | (go_at_call 40; refine (HI.out _).mono ?_; rintro e w1 ⟨rfl, rfl⟩))
  go_end0
  exact ⟨rfl, rfl⟩
theorem ints_0 (w : World) : Calls Tryd.prog 30 #[.slice none 0 0] w fun e w' => e = .returned (.tuple #[]) ∧ w' = w := by
  have HI := Lib.hid sort_0
  go_enter Tryd.func30, Tryd.ntmps30
  go_wp2_with (go_at_call 33; refine (HI.out _).mono ?_; rintro e w1 ⟨rfl, rfl⟩)
  go_end0
  exact ⟨rfl, rfl⟩
end Go.Proofs.YthfihamhkhnckaaDoor.Sel

namespace Go.Proofs.YthfihamhkhnckaaDoor.Sel
open Go.Maps Go.Sort Go.RowKit Go.ChangeShapes Go.Proofs.YthfihamhkhnckaaDoorW.PrintWords

/-- Only pages between 1 and n are spoken of. -/
def Inside (n : Nat) (l : St) : Prop := ∀ p, (l.f p).isSome = true → 1 ≤ p ∧ p ≤ n
/-- The selected pages, ascending. -/
def selL (n : Nat) (f : Int → Option Bool) : List Int := ((List.range n).map (fun i : Nat => (i : Int) + 1)).filter (fun p => f p == some true)
theorem mem_selL {n : Nat} {f : Int → Option Bool} {p : Int} : p ∈ selL n f ↔ (1 ≤ p ∧ p ≤ n) ∧ f p = some true := by
  unfold selL
  rw [List.mem_filter, List.mem_map]
  constructor
  · rintro ⟨⟨i, hi, rfl⟩, h⟩
    have := List.mem_range.1 hi
    exact ⟨by omega, eq_of_beq h⟩
  · rintro ⟨h1, h2⟩
    exact ⟨⟨(p - 1).toNat, List.mem_range.2 (by omega), by omega⟩, by rw [h2]; rfl⟩
theorem selL_lt (n : Nat) (f : Int → Option Bool) : (selL n f).Pairwise (· < ·) := by
  unfold selL
  refine List.Pairwise.filter _ (List.pairwise_map.2 ?_)
  exact List.pairwise_lt_range.imp (fun h => by omega)
theorem selL_length (n : Nat) (f : Int → Option Bool) : (selL n f).length ≤ n := by
  unfold selL
  refine Nat.le_trans (List.length_filter_le _ _) ?_
  simp
/-- The pages met so far. -/
structure Got (f : Int → Option Bool) (left : Lit → Bool) (ss : List Int) : Prop where
  once : ss.Nodup
  mem : ∀ x, x ∈ ss ↔ f x = some true ∧ left (.int .i64 x) = false
theorem Got.start {D : DataW Unit} {f : Int → Option Bool} (h : Rd D f) : Got f (Maps.has D) [] := by
  refine ⟨List.nodup_nil, fun x => ⟨fun hx => (by cases hx), fun hx => ?_⟩⟩
  rw [h.has, hx.1] at hx
  exact absurd hx.2 (by simp)
theorem Got.step {D : DataW Unit} {f : Int → Option Bool} {left : Lit → Bool} {ss : List Int} (h : Got f left ss) (hr : Rd D f) {x : Int} {b : Bool} (hlk : left (.int .i64 x) = true) (hat : ∀ zd, D.atKey (.int .i64 x) zd = .lit (.bool b)) :
    Got f (fun z => left z && !z.sameKey (.int .i64 x)) (if b then ss ++ [x] else ss) := by
  have hhas := has_true_of_atKey hat
  rw [hr.has] at hhas
  obtain ⟨c, hc⟩ := Option.isSome_iff_exists.1 hhas
  have h3 := hr.at_ x c hc (.lit (.bool false))
  rw [hat] at h3
  have hbc : b = c := by injection h3 with h3; injection h3
  subst hbc
  have hnot : x ∉ ss := fun hm => by rw [((h.mem x).1 hm).2] at hlk; cases hlk
  have hk : ∀ y : Int, (Lit.int .i64 y).sameKey (.int .i64 x) = (y == x) := fun y => by simp [Lit.sameKey]; rfl
  refine ⟨?_, fun y => ?_⟩
  · cases b
    · exact h.once
    · refine List.nodup_append.2 ⟨h.once, by simp, ?_⟩
      intro a ha c hc e
      rw [List.mem_singleton] at hc
      rw [e, hc] at ha
      exact hnot ha
  · show y ∈ (if b then ss ++ [x] else ss) ↔ f y = some true ∧ (left (.int .i64 y) && !(Lit.int .i64 y).sameKey (.int .i64 x)) = false
    rw [hk]
    by_cases hyx : y = x
    · subst hyx
      cases b
      · simp [hnot, hc]
      · simp [hc]
    · have hb : (y == x) = false := beq_eq_false_iff_ne.2 hyx
      rw [hb]
      cases b
      · simpa using h.mem y
      · simpa [hyx] using h.mem y
theorem Got.sorted {f : Int → Option Bool} {left : Lit → Bool} {ss : List Int} (h : Got f left ss) (hl : ∀ kl, left kl = false) {n : Nat} (hin : ∀ p, (f p).isSome = true → 1 ≤ p ∧ p ≤ n) : ss.mergeSort (fun x y => decide (x ≤ y)) = selL n f := by
  have tr : ∀ a b c : Int, decide (a ≤ b) = true → decide (b ≤ c) = true → decide (a ≤ c) = true := fun a b c h1 h2 => by simp only [decide_eq_true_eq] at *; omega
  have tot : ∀ a b : Int, (decide (a ≤ b) || decide (b ≤ a)) = true := fun a b => by simp only [Bool.or_eq_true, decide_eq_true_eq]; omega
  have hp : ss.Perm (selL n f) := by
    refine (List.perm_ext_iff_of_nodup h.once ((selL_lt n f).imp (fun h => by omega))).2 fun x => ?_
    rw [h.mem, mem_selL]
    constructor
    · rintro ⟨h1, _⟩
      exact ⟨hin x (by rw [h1]; rfl), h1⟩
    · rintro ⟨_, h1⟩
      exact ⟨h1, hl _⟩
  refine List.Perm.eq_of_pairwise (le := fun a b => decide (a ≤ b) = true) (fun a b _ _ h1 h2 => ?_) (List.pairwise_mergeSort tr tot ss) ((selL_lt n f).imp (fun h => by simp; omega)) ((List.mergeSort_perm ss _).trans hp)
  simp only [decide_eq_true_eq] at h1 h2
  omega
theorem owns_size {P : Program} {k : TypeId} {R : Value → Option (DataW Unit × List MemPlace)} {w : World} {b n : Nat} {D : DataW Unit} (h : w.ownsMap P k R b n D) : Maps.size D ≤ n := by
  obtain ⟨es, clock, hb, F, hs, rfl⟩ := h
  rw [size_eq, length_sorted]
  simpa using hs
theorem row_form {w : World} {B : Nat} {v : Value} {ss : List Int} (h : w.ownsRow B 3 1 v ss.length (nums .i64 ss)) (h0 : 0 < ss.length) :
    ∃ g cap cur, v = .slice (some ⟨g, 0, none⟩) ss.length cap ∧ B ≤ g ∧ w.heap[g]? = some (.cells cur 3 (0, 0)) ∧ ss.length ≤ cap ∧ cap ≤ maxLen ∧ cur.size = cap * 1 ∧ Holds (Value.int .i64) w g 0 ss.toArray := by
  rcases h.2 with ⟨_, h1⟩ | ⟨g, cap, cur, rfl, hbase, hb, h1, h2, h3, h4⟩
  · omega
  · exact ⟨g, cap, cur, rfl, hbase, hb, h1, h2, h3, holds_of_blockI hb (by simpa [nums] using h4)⟩
/-- A list of the call's own, nil or not, sorted. -/
theorem sort_row {w : World} {B : Nat} {v : Value} {ss : List Int} (h : w.ownsRow B 3 1 v ss.length (nums .i64 ss)) (hB : B ≤ w.heap.size) (hl : ss.length < 4611686018427387904) (hnil : ss = [] → v = .slice none 0 0) :
    Calls Tryd.prog 30 #[v] w fun e w' => e = .returned (.tuple #[]) ∧ w'.ownsRow B 3 1 v ss.length (nums .i64 (ss.mergeSort fun x y => decide (x ≤ y))) ∧ Below B w w' := by
  by_cases hse : ss = []
  · obtain rfl := hnil hse
    subst hse
    refine (ints_0 w).mono ?_
    rintro e w' ⟨rfl, rfl⟩
    exact ⟨rfl, by rw [List.mergeSort_nil]; exact own_nil _ _ _ _, Below.refl _ _⟩
  · obtain ⟨g, cap, cur, rfl, hbase, hb, h1, h2, h3, hH⟩ := row_form h (List.length_pos_iff.2 hse)
    refine (sort_calls g 0 cap ss w hH (Array.getElem?_eq_some_iff.1 hb).1 hl).mono ?_
    rintro e w' ⟨rfl, nn, os, rfl⟩
    exact ⟨rfl, ownsRow_sortedI (by simp) hbase hb h1 h2 h3, (Below.refl _ _).grown (grownBy_sortedI _) hB (fun j hj => by cases hj; exact hbase)⟩
set_option maxRecDepth 100000 in
set_option maxHeartbeats 4000000 in
theorem pages_calls (n : Nat) (l : St) (hl : l.n ≤ 200000) (hin : Inside n l) (B b : Nat) (w : World) (hC : Cp B b l w) :
    Calls Tryd.prog 22 #[.map (some b)] w fun e w' => ∃ v, e = .returned v ∧ w'.ownsRow w.heap.size 3 1 v (selL n l.f).length (nums .i64 (selL n l.f)) ∧ Below w.heap.size w w' := by
  obtain ⟨_, D, hown, hr⟩ := hC
  have hbl := hown.lt
  have hszD := owns_size hown
  have HR := Lib.hid hr
  have HIN := Lib.hid hin
  clear hr hin
  go_enter Tryd.func22, Tryd.ntmps22
  go_wp2_with (at_range; refine wpList_range_own _ rfl _ 44 rfl 3 4 keyed Tryd.underlying44 _ b _ D rfl hown ?_; intro w0 hrg0 hg0 hs0)
  go_frame
  go_loopw [3] (fun v wr => ∃ (left : Lit → Bool) (cnt : Nat) (ss : List Int), Hid (wr.ranges Tryd.prog 3 (plainElem (H := Unit) Tryd.prog 4) b w.heap.size l.n D left cnt) ∧ ss.length + cnt ≤ Maps.size D ∧
      Hid (wr.ownsRow w.heap.size 3 1 v ss.length (nums .i64 ss)) ∧ Hid (Got l.f left ss) ∧ Hid (Below w.heap.size w wr) ∧ Hid (ss = [] → v = .slice none 0 0))
    (fun _ wr => wr.rangeLeft b w.heap.size)
  case atStart =>
    exact ⟨_, _, [], Lib.hid hrg0, by simp, Lib.hid (own_nil _ _ _ _), Lib.hid (Got.start HR.out), Lib.hid ((Below.refl _ _).grown hg0 (Nat.le_refl _) (fun j hj => by cases hj)), Lib.hid (fun _ => rfl)⟩
  case round =>
    obtain ⟨left, cnt, ss, hrg, hcs, hrow, hG, hnx, hnil⟩ := hrel
    have hmx : ss.length ≤ 200000 := by omega
    go_wp2_with (first
      | (at_next; refine wpList_next_ranges _ rfl _ rfl 3 keyed (plainElem (H := Unit) Tryd.prog 4) (Value.int .i64) Value.bool (fun key kl hk => by obtain ⟨x, rfl, _⟩ := Maps.keyOf_int_inv Tryd.underlying3 hk; exact ⟨x, rfl⟩) (fun v y hv => by obtain ⟨c, rfl, _⟩ := pe_inv hv; exact ⟨c, rfl⟩) b w.heap.size l.n D _ _ rfl hrg.out ?_ ?_
         intro hc0 hl0
         have hsort := hG.out.sorted hl0 HIN.out
         have hlen : ss.length = (selL n l.f).length := (by rw [← hsort, List.length_mergeSort])
         have HSo := Lib.hid hsort
         have HS := Lib.hid (sort_row hrow.out hnx.out.size (by omega) hnil.out)
         have HL := Lib.hid hlen
         clear hsort hlen
         rotate_left
         intro x c kl yv w2 cnt2 hkey hlk hv hat hrg2 hlt hg2 hs2 hen
         obtain ⟨x', ex, rfl, _⟩ := Maps.keyOf_int_inv Tryd.underlying3 hkey
         cases ex
         obtain ⟨c', ec, hy⟩ := pe_inv hv
         cases ec
         cases hy
         have HRow2 := Lib.hid (hrow.out.kept hg2 (Or.inr (row_ne_iter hrow.out hrg.out).symm))
         have HB2 := Lib.hid (hnx.out.grown hg2 hnx.out.size (fun j hj => by cases hj; exact Nat.le_refl _))
         have HG2 := Lib.hid (hG.out.step HR.out hlk hat)
         have HRg2 := Lib.hid hrg2
         clear hs2 hrg2 hg2 hat hlk hv hkey
         cases c)
      | (at_builtin; refine print_append_num w.heap.size rfl (.tmp 14) (.tmp 16) 24 3 .i64 8 rfl Tryd.underlying24 info_int (by decide) _ ss x rfl rfl HRow2.out HB2.out HB2.out.size (by omega) ?_; intro v1 w3 ho3 hb3 hg3 _)
      | (go_at_call 30; refine HS.out.mono ?_; rintro e w' ⟨rfl, ho4, hB4⟩))
    · exact ⟨⟨_, cnt2, ss, HRg2, by omega, HRow2, Lib.hid (by simpa using HG2.out), HB2, hnil⟩, by rw [HRg2.out.left_eq, hrg.out.left_eq]; exact hlt⟩
    · have hrg3 := HRg2.out.kept hg3 (row_ne_low HRow2.out hbl) (row_ne_iter HRow2.out HRg2.out)
      exact ⟨⟨_, cnt2, ss ++ [x], Lib.hid hrg3, by simp; omega, Lib.hid ho3, Lib.hid (by simpa using HG2.out), Lib.hid hb3, Lib.hid (fun h => absurd h (by simp))⟩, by rw [hrg3.left_eq, hrg.out.left_eq]; exact hlt⟩
    · go_ret
      refine ⟨_, rfl, ?_, hnx.out.trans hB4⟩
      rw [HSo.out, HL.out] at ho4
      exact ho4
set_option maxRecDepth 100000 in
theorem pages_nil (w : World) : Calls Tryd.prog 22 #[.map none] w fun e w' => e = .returned (.slice none 0 0) ∧ Below w.heap.size w w' := by
  have hrg := run_range_nilMap (P := Tryd.prog) w 44 3 4 Tryd.underlying44
  have hnx : ∀ ty, (Instr.next (.pointer (some ⟨w.heap.size, 0, none⟩)) false ty).run Tryd.prog (w.alloc (.mapIter none 0 #[] 0)) = _ := fun ty => run_next_nilMap _ ty 0 0 #[]
  have HI := Lib.hid ints_0
  go_enter Tryd.func22, Tryd.ntmps22
  go_wp2_with fail
  refine wp_loop_rounds 1 ?_
  rw [rounds_succ]
  go_wp2_with (go_at_call 30; refine (HI.out _).mono ?_; rintro e w1 ⟨rfl, rfl⟩)
  go_ret
  exact ⟨rfl, (Below.refl _ _).alloc (Nat.le_refl _) _⟩
end Go.Proofs.YthfihamhkhnckaaDoor.Sel

namespace Go.Proofs.YthfihamhkhnckaaDoor.Sel
open Go.Maps Go.Sort Go.RowKit Go.ChangeShapes Go.Proofs.YthfihamhkhnckaaDoorW.PrintWords

/-- A map's value says l: none says nothing. -/
def Mv (B : Nat) (o : Option Nat) (l : St) (w : World) : Prop := (o = none ∧ l = St.new) ∨ ∃ c, o = some c ∧ Cp B c l w
theorem Cp.keep {B c : Nat} {l : St} {w w1 : World} (H : Cp B c l w) (h : w1.heap[c]? = w.heap[c]?) : Cp B c l w1 := by
  obtain ⟨hc, D, ho, hr⟩ := H
  obtain ⟨es, clock, hb, F, hs, hD⟩ := ho
  exact ⟨hc, D, ⟨es, clock, h.trans hb, F, hs, hD⟩, hr⟩
theorem Cp.less {B B' c : Nat} {l : St} {w : World} (H : Cp B c l w) (h : B' ≤ B) : Cp B' c l w := ⟨Nat.le_trans h H.1, H.2⟩
theorem Cp.lt {B c : Nat} {l : St} {w : World} (H : Cp B c l w) : c < w.heap.size := by
  obtain ⟨_, D, ho, _⟩ := H
  exact ho.lt
theorem Mv.keep {B : Nat} {o : Option Nat} {l : St} {w w1 : World} (H : Mv B o l w) (h : ∀ c, B ≤ c → c < w.heap.size → w1.heap[c]? = w.heap[c]?) : Mv B o l w1 := by
  rcases H with h1 | ⟨c, h1, h2⟩
  · exact .inl h1
  · exact .inr ⟨c, h1, h2.keep (h c h2.1 h2.lt)⟩
theorem Mv.less {B B' : Nat} {o : Option Nat} {l : St} {w : World} (H : Mv B o l w) (h : B' ≤ B) : Mv B' o l w := by
  rcases H with h1 | ⟨c, h1, h2⟩
  · exact .inl h1
  · exact .inr ⟨c, h1, h2.less h⟩
/-- What the closure leaves. -/
def Listed (L : St) (b1 b2 : Nat) (w w' : World) : Prop :=
  ∃ o, w'.heap[b1]? = some (.cells #[.map o] 44 (0, 0)) ∧ w'.cell? ⟨b2, 0, none⟩ = some .nilIface ∧ Mv w.heap.size o L w' ∧ Kept2 b1 b2 w w'
/-- What an api call hands back. -/
def Handed (L : St) (w : World) (e : Ending) (w' : World) : Prop := ∃ o, e = .returned (.tuple #[.map o, .nilIface]) ∧ Mv w.heap.size o L w' ∧ Below w.heap.size w w'
/-- impl.pages, whatever the map. -/
theorem pages_any (n : Nat) (l : St) (hl : l.n ≤ 200000) (hin : Inside n l) (B : Nat) (o : Option Nat) (w : World) (hC : Mv B o l w) :
    Calls Tryd.prog 22 #[.map o] w fun e w' => ∃ v, e = .returned v ∧ w'.ownsRow w.heap.size 3 1 v (selL n l.f).length (nums .i64 (selL n l.f)) ∧ Below w.heap.size w w' := by
  rcases hC with ⟨rfl, rfl⟩ | ⟨c, rfl, hC⟩
  · refine (pages_nil w).mono ?_
    rintro e w' ⟨rfl, hB⟩
    have h0 : selL n St.new.f = [] := by
      unfold selL
      rw [List.filter_eq_nil_iff]
      intro a _
      simp [St.new]
    rw [h0]
    exact ⟨_, rfl, own_nil _ _ _ _, hB⟩
  · exact pages_calls n l hl hin B c w hC
end Go.Proofs.YthfihamhkhnckaaDoor.Sel

namespace Go.Proofs.YthfihamhkhnckaaDoor.Sel
open Go.Maps Go.Sort Go.RowKit Go.ChangeShapes Go.Proofs.YthfihamhkhnckaaDoorW.PrintWords

set_option maxHeartbeats 1000000
section
variable (n : Nat) (L : St) (A : Option Addr) (len cap : Nat) (x : Bool)
theorem closureSelected (b0 b1 b2 b3 b4 : Nat) (v : Value) (w : World)
    (HP : Calls Tryd.prog 21 #[.int .i64 (n : Int), .slice A len cap, .bool x, .bool false] w (Handed L w))
    (c0 : w.cell? ⟨b0, 0, none⟩ = some (.int .i64 (n : Int))) (c1 : w.cell? ⟨b1, 0, none⟩ = some (.slice A len cap)) (c2 : w.cell? ⟨b2, 0, none⟩ = some (.bool x)) (h3 : w.heap[b3]? = some (.cells #[v] 44 (0, 0))) (h4 : w.heap[b4]? = some (.cells #[.nilIface] 40 (0, 0))) (hne : b3 ≠ b4) :
    Calls Tryd.prog 20 #[.pointer (some ⟨b0, 0, none⟩), .pointer (some ⟨b1, 0, none⟩), .pointer (some ⟨b2, 0, none⟩), .pointer (some ⟨b3, 0, none⟩), .pointer (some ⟨b4, 0, none⟩)] w fun e w' => e = .returned (.tuple #[]) ∧ Listed L b3 b4 w w' := by
  have l3 := blk_lt h3
  have l4 := blk_lt h4
  have H3 := Lib.hid h3
  have H4 := Lib.hid h4
  have HP := Lib.hid HP
  clear h3 h4
  go_enter Tryd.func20, Tryd.ntmps20
  go_wp2_with (go_at_call 21; refine HP.out.mono ?_; rintro e w1 ⟨o, rfl, ho, hb⟩; have m3 := (hb.block b3 l3).trans H3.out; have m4 := (hb.block b4 l4).trans H4.out; have k3 := blk_cell m3 0; have f3 := blk_frozen m3 0; have k4 := blk_cell m4 0; have f4 := blk_frozen m4 0; have M3 := Lib.hid m3; have Ho := Lib.hid ho; clear m3 m4 ho)
  go_end0
  refine ⟨rfl, o, ?_, ?_, ?_, hb.os, hb.tape, hb.output, by simpa using hb.size, fun j hj n1 n2 => ?_⟩
  · exact blk_far (blk_put M3.out 0 _ rfl) hne _
  · exact World.cell?_setCell_same _ _ _ ((World.cell?_setCell_other _ _ _ _ (by intro h; cases h; exact hne rfl)).trans k4)
  · refine Ho.out.keep (fun c hc _ => ?_)
    rw [heap_setCell_other _ _ _ _ (by show c ≠ b4; omega), heap_setCell_other _ _ _ _ (by show c ≠ b3; omega)]
  · rw [heap_setCell_other _ _ _ _ n2, heap_setCell_other _ _ _ _ n1]
    exact hb.block j hj
theorem calmSelected (b0 b1 b2 b3 b4 : Nat) (v : Value) (w : World)
    (HP : Calls Tryd.prog 21 #[.int .i64 (n : Int), .slice A len cap, .bool x, .bool false] (w.alloc (.cells #[.bool false] 4)) (Handed L (w.alloc (.cells #[.bool false] 4))))
    (c0 : w.cell? ⟨b0, 0, none⟩ = some (.int .i64 (n : Int))) (c1 : w.cell? ⟨b1, 0, none⟩ = some (.slice A len cap)) (c2 : w.cell? ⟨b2, 0, none⟩ = some (.bool x)) (h3 : w.heap[b3]? = some (.cells #[v] 44 (0, 0))) (h4 : w.heap[b4]? = some (.cells #[.nilIface] 40 (0, 0))) (hne : b3 ≠ b4) :
    Calls Tryd.prog 17 #[.func (.func 20) #[] #[.pointer (some ⟨b0, 0, none⟩), .pointer (some ⟨b1, 0, none⟩), .pointer (some ⟨b2, 0, none⟩), .pointer (some ⟨b3, 0, none⟩), .pointer (some ⟨b4, 0, none⟩)]] w fun e w' => e = .returned (.bool true) ∧ Listed L b3 b4 w w' := by
  have hmf : ∀ (fn : Fn) (first cap : Array Value) (w : World), (Instr.makeFunc fn first cap).run Tryd.prog w = .ok (.func fn first cap) w := fun _ _ _ _ => rfl
  have l3 := blk_lt h3
  have l4 := blk_lt h4
  have ba := (Below.refl _ w).alloc (Nat.le_refl _) (.cells #[.bool false] 4)
  have H := Lib.hid (closureSelected n L A len cap x b0 b1 b2 b3 b4 v (w.alloc (.cells #[.bool false] 4)) HP (pw_cell_below ba c0) (pw_cell_below ba c1) (pw_cell_below ba c2) ((ba.block b3 l3).trans h3) ((ba.block b4 l4).trans h4) hne)
  have hsz : (w.alloc (.cells #[.bool false] 4)).heap.size = w.heap.size + 1 := by simp
  clear ba c0 c1 c2 h3 h4 HP
  go_enter_defers Tryd.func17, Tryd.ntmps17
  go_wp2_with (go_at_call 20; refine H.out.mono ?_; rintro e w1 ⟨rfl, o, q1, q2, q3, hK⟩
               have hblk : w1.heap[w.heap.size]? = (w.alloc (.cells #[.bool false] 4)).heap[w.heap.size]? := hK.block _ (by simp) (by omega) (by omega)
               have kc : w1.cell? ⟨w.heap.size, 0, none⟩ = some (.bool false) := (World.cell?_of_block hblk).trans (by simp [World.cell?, World.alloc, -World.alloc_eq])
               have kf : w1.frozen? ⟨w.heap.size, 0, none⟩ = false := (World.frozen?_of_block hblk).trans (by simp [World.frozen?, World.alloc, -World.alloc_eq])
               have Q1 := Lib.hid q1
               have Q3 := Lib.hid q3
               clear hblk q1 q3)
  refine leaves_cons (f := 26) (args := #[.pointer (some ⟨w.heap.size, 0, none⟩)]) (by simp) (by simp [go_sem]) ?_
  refine (catch_idle ⟨w.heap.size, 0, none⟩ _).mono ?_
  rintro e u' w'' ⟨rfl, rfl, rfl⟩
  have k2 : (w1.setCell ⟨w.heap.size, 0, none⟩ (.bool true)).cell? ⟨w.heap.size, 0, none⟩ = some (.bool true) := World.cell?_setCell_same _ _ _ kc
  have hs1 := hK.size
  rw [hsz] at hs1
  have main : Listed L b3 b4 w (w1.setCell ⟨w.heap.size, 0, none⟩ (.bool true)) := by
    refine ⟨o, blk_far Q1.out (by show b3 ≠ w.heap.size; omega) _, ?_, (Q3.out.keep (fun c hc _ => ?_)).less (by simp), hK.os, hK.tape, hK.output, by simp; omega, fun j hj n1 n2 => ?_⟩
    · rw [World.cell?_setCell_other _ _ _ _ (by intro h; cases h; omega)]; exact q2
    · rw [hsz] at hc
      rw [heap_setCell_other _ _ _ _ (by show c ≠ w.heap.size; omega)]
    · rw [heap_setCell_other _ _ _ _ (by show j ≠ w.heap.size; omega), hK.block j (by omega) n1 n2]
      exact Below.heap_alloc w _ j hj
  generalize w1.setCell ⟨w.heap.size, 0, none⟩ (.bool true) = W at k2 main ⊢
  simp [Leaves, settle, results, Tryd.results17, go_sem, k2]
  exact main
end
set_option maxHeartbeats 4000000
set_option maxRecDepth 100000 in
theorem implSelected (n : Nat) (hn : n ≤ 1000) (L : St) (hl : L.n ≤ 200000) (hin : Inside n L) (x : Bool) (ts : List (List UInt8)) (hts : ts.length ≤ 100) (A : Option Addr) (cap : Nat) (hcap : ts.length ≤ cap) (w : World)
    (hr : Kd.C Kd.string w A ts.length (ts.map bs))
    (HP : ∀ W, Below w.heap.size w W → Calls Tryd.prog 21 #[.int .i64 (n : Int), .slice A ts.length cap, .bool x, .bool false] W (Handed L W)) :
    Calls Tryd.prog 11 #[.int .i64 (n : Int), .slice A ts.length cap, .bool x] w fun e w' => ∃ v, e = .returned (.tuple #[v, .bool true]) ∧ w'.ownsRow w.heap.size 3 1 v (selL n L.f).length (nums .i64 (selL n L.f)) ∧ Below w.heap.size w w' := by
  have hmf : ∀ (fn : Fn) (first cap : Array Value) (w : World), (Instr.makeFunc fn first cap).run Tryd.prog w = .ok (.func fn first cap) w := fun _ _ _ _ => rfl
  have HFew : ∀ W, Below w.heap.size w W → Calls Tryd.prog 16 #[.int .i64 (n : Int), .slice A ts.length cap] W fun e w' => e = .returned (.bool true) ∧ Below W.heap.size W w' ∧ w'.heap.size = W.heap.size := fun W hW => by
    have := few_calls n hn (ts.map bs) (by simpa using hts) A cap (by simpa using hcap) W (by rw [List.length_map]; exact Kd.C_below hr hW)
    rwa [List.length_map] at this
  have hB3 : Below w.heap.size w (((w.alloc (.cells #[.int .i64 (n : Int)] 3)).alloc (.cells #[.slice A ts.length cap] 22)).alloc (.cells #[.bool x] 4)) := ((((Below.refl _ w).alloc (by first | exact Nat.le_refl _ | (simp only [World.size_alloc]; omega)) _).alloc (by first | exact Nat.le_refl _ | (simp only [World.size_alloc]; omega)) _).alloc (by first | exact Nat.le_refl _ | (simp only [World.size_alloc]; omega)) _)
  have H := fun (W w1 : World) (hW : W = (((w.alloc (.cells #[.int .i64 (n : Int)] 3)).alloc (.cells #[.slice A ts.length cap] 22)).alloc (.cells #[.bool x] 4))) (hb1 : Below W.heap.size W w1) (hs1 : w1.heap.size = W.heap.size) => (by
    subst hW
    obtain ⟨t1, t2, t3⟩ := three_blocks w (.cells #[.int .i64 (n : Int)] 3) (.cells #[.slice A ts.length cap] 22) (.cells #[.bool x] 4)
    have hsz : w1.heap.size = w.heap.size + 1 + 1 + 1 := by rw [hs1]; simp only [World.size_alloc]
    have hb2 := below_alloc (below_alloc hb1 (.cells #[.map none] 44)) (.cells #[.nilIface] 40)
    have hB4 := hB3.trans (hb2.mono hB3.size)
    have m3 : ((w1.alloc (.cells #[.map none] 44)).alloc (.cells #[.nilIface] 40)).heap[w1.heap.size]? = some (.cells #[.map none] 44 (0, 0)) := blk_alloc (blk_new w1 _) _
    have m4 : ((w1.alloc (.cells #[.map none] 44)).alloc (.cells #[.nilIface] 40)).heap[w1.heap.size + 1]? = some (.cells #[.nilIface] 40 (0, 0)) := by have := blk_new (w1.alloc (.cells #[.map none] 44)) (.cells #[.nilIface] 40); rwa [World.size_alloc] at this
    refine (calmSelected n L A ts.length cap x (w.heap.size) (w.heap.size + 1) (w.heap.size + 1 + 1) w1.heap.size (w1.heap.size + 1) (.map none) ((w1.alloc (.cells #[.map none] 44)).alloc (.cells #[.nilIface] 40)) (HP _ (hB4.alloc hB4.size _)) (pw_cell_below hb2 (blk_cell t1 0)) (pw_cell_below hb2 (blk_cell t2 0)) (pw_cell_below hb2 (blk_cell t3 0)) m3 m4 (by omega)).mono ?_
    rintro e w2 ⟨he, o, q1, q2, q3, hK⟩
    have hs := hK.size
    simp only [World.size_alloc] at hs
    refine ⟨he, o, q1, q2, q3.less (by simp only [World.size_alloc]; omega), ⟨hK.os.trans hB4.os, hK.tape.trans hB4.tape, hK.output.trans hB4.output, by omega, fun j hj => ?_⟩⟩
    exact (hK.block j (by simp only [World.size_alloc]; omega) (by omega) (by omega)).trans (hB4.block j hj)
    : Calls Tryd.prog 17 #[.func (.func 20) #[] #[.pointer (some ⟨w.heap.size, 0, none⟩), .pointer (some ⟨w.heap.size + 1, 0, none⟩), .pointer (some ⟨w.heap.size + 1 + 1, 0, none⟩), .pointer (some ⟨w1.heap.size, 0, none⟩), .pointer (some ⟨w1.heap.size + 1, 0, none⟩)]] ((w1.alloc (.cells #[.map none] 44)).alloc (.cells #[.nilIface] 40)) fun e w2 => e = .returned (.bool true) ∧ ∃ o, w2.heap[w1.heap.size]? = some (.cells #[.map o] 44 (0, 0)) ∧ w2.cell? ⟨w1.heap.size + 1, 0, none⟩ = some .nilIface ∧ Mv w.heap.size o L w2 ∧ Below w.heap.size w w2)
  have HC := Lib.hid (fun w1 => H _ w1 rfl)
  have HF := Lib.hid (HFew _ hB3)
  have HPg := Lib.hid (fun o W (hM : Mv w.heap.size o L W) => pages_any n L hl hin w.heap.size o W hM)
  clear H HFew hr HP hin hB3
  generalize selL n L.f = S at *
  go_enter Tryd.func11, Tryd.ntmps11
  go_wp2_with (first
    | (go_at_call 16; refine HF.out.mono ?_; rintro e w1 ⟨rfl, hb1, hs1⟩; have HC1 := Lib.hid (HC.out w1 hb1 hs1); have HS1 := Lib.hid hs1; clear hb1 hs1)
    | (go_at_call 17; refine HC1.out.mono ?_; rintro e w2 ⟨rfl, o, q1, q2, q3, hB⟩; have k2 := blk_cell q1 0; have HB := Lib.hid hB; have HQ := Lib.hid (HPg.out o w2 q3); clear q1 q3 hB)
    | (go_at_call 22; refine HQ.out.mono ?_; rintro e w3 ⟨v, rfl, ho, hB3⟩))
  exact bodyPost_ret (v := .tuple #[v, .bool true]) (by simp [results, Tryd.results11, go_sem]) rfl ⟨_, rfl, own_weaken ho HB.out.size, below_step HB.out hB3⟩
end Go.Proofs.YthfihamhkhnckaaDoor.Sel

namespace Go.Proofs.YthfihamhkhnckaaDoor.Sel
open Go.Maps Go.Sort Go.RowKit Go.ChangeShapes Go.Proofs.YthfihamhkhnckaaDoorW.PrintWords

set_option maxHeartbeats 1000000
section
variable (n : Nat) (L : St) (A : Option Addr) (len cap : Nat)
theorem closureRemaining (b0 b1 b2 b3 : Nat) (v : Value) (w : World)
    (HP : Calls Tryd.prog 24 #[.int .i64 (n : Int), .slice A len cap, .bool false] w (Handed L w))
    (c0 : w.cell? ⟨b0, 0, none⟩ = some (.int .i64 (n : Int))) (c1 : w.cell? ⟨b1, 0, none⟩ = some (.slice A len cap)) (h3 : w.heap[b2]? = some (.cells #[v] 44 (0, 0))) (h4 : w.heap[b3]? = some (.cells #[.nilIface] 40 (0, 0))) (hne : b2 ≠ b3) :
    Calls Tryd.prog 23 #[.pointer (some ⟨b0, 0, none⟩), .pointer (some ⟨b1, 0, none⟩), .pointer (some ⟨b2, 0, none⟩), .pointer (some ⟨b3, 0, none⟩)] w fun e w' => e = .returned (.tuple #[]) ∧ Listed L b2 b3 w w' := by
  have l3 := blk_lt h3
  have l4 := blk_lt h4
  have H3 := Lib.hid h3
  have H4 := Lib.hid h4
  have HP := Lib.hid HP
  clear h3 h4
  go_enter Tryd.func23, Tryd.ntmps23
  go_wp2_with (go_at_call 24; refine HP.out.mono ?_; rintro e w1 ⟨o, rfl, ho, hb⟩; have m3 := (hb.block b2 l3).trans H3.out; have m4 := (hb.block b3 l4).trans H4.out; have k3 := blk_cell m3 0; have f3 := blk_frozen m3 0; have k4 := blk_cell m4 0; have f4 := blk_frozen m4 0; have M3 := Lib.hid m3; have Ho := Lib.hid ho; clear m3 m4 ho)
  go_end0
  refine ⟨rfl, o, ?_, ?_, ?_, hb.os, hb.tape, hb.output, by simpa using hb.size, fun j hj n1 n2 => ?_⟩
  · exact blk_far (blk_put M3.out 0 _ rfl) hne _
  · exact World.cell?_setCell_same _ _ _ ((World.cell?_setCell_other _ _ _ _ (by intro h; cases h; exact hne rfl)).trans k4)
  · refine Ho.out.keep (fun c hc _ => ?_)
    rw [heap_setCell_other _ _ _ _ (by show c ≠ b3; omega), heap_setCell_other _ _ _ _ (by show c ≠ b2; omega)]
  · rw [heap_setCell_other _ _ _ _ n2, heap_setCell_other _ _ _ _ n1]
    exact hb.block j hj
theorem calmRemaining (b0 b1 b2 b3 : Nat) (v : Value) (w : World)
    (HP : Calls Tryd.prog 24 #[.int .i64 (n : Int), .slice A len cap, .bool false] (w.alloc (.cells #[.bool false] 4)) (Handed L (w.alloc (.cells #[.bool false] 4))))
    (c0 : w.cell? ⟨b0, 0, none⟩ = some (.int .i64 (n : Int))) (c1 : w.cell? ⟨b1, 0, none⟩ = some (.slice A len cap)) (h3 : w.heap[b2]? = some (.cells #[v] 44 (0, 0))) (h4 : w.heap[b3]? = some (.cells #[.nilIface] 40 (0, 0))) (hne : b2 ≠ b3) :
    Calls Tryd.prog 17 #[.func (.func 23) #[] #[.pointer (some ⟨b0, 0, none⟩), .pointer (some ⟨b1, 0, none⟩), .pointer (some ⟨b2, 0, none⟩), .pointer (some ⟨b3, 0, none⟩)]] w fun e w' => e = .returned (.bool true) ∧ Listed L b2 b3 w w' := by
  have hmf : ∀ (fn : Fn) (first cap : Array Value) (w : World), (Instr.makeFunc fn first cap).run Tryd.prog w = .ok (.func fn first cap) w := fun _ _ _ _ => rfl
  have l3 := blk_lt h3
  have l4 := blk_lt h4
  have ba := (Below.refl _ w).alloc (Nat.le_refl _) (.cells #[.bool false] 4)
  have H := Lib.hid (closureRemaining n L A len cap b0 b1 b2 b3 v (w.alloc (.cells #[.bool false] 4)) HP (pw_cell_below ba c0) (pw_cell_below ba c1) ((ba.block b2 l3).trans h3) ((ba.block b3 l4).trans h4) hne)
  have hsz : (w.alloc (.cells #[.bool false] 4)).heap.size = w.heap.size + 1 := by simp
  clear ba c0 c1 h3 h4 HP
  go_enter_defers Tryd.func17, Tryd.ntmps17
  go_wp2_with (go_at_call 23; refine H.out.mono ?_; rintro e w1 ⟨rfl, o, q1, q2, q3, hK⟩
               have hblk : w1.heap[w.heap.size]? = (w.alloc (.cells #[.bool false] 4)).heap[w.heap.size]? := hK.block _ (by simp) (by omega) (by omega)
               have kc : w1.cell? ⟨w.heap.size, 0, none⟩ = some (.bool false) := (World.cell?_of_block hblk).trans (by simp [World.cell?, World.alloc, -World.alloc_eq])
               have kf : w1.frozen? ⟨w.heap.size, 0, none⟩ = false := (World.frozen?_of_block hblk).trans (by simp [World.frozen?, World.alloc, -World.alloc_eq])
               have Q1 := Lib.hid q1
               have Q3 := Lib.hid q3
               clear hblk q1 q3)
  refine leaves_cons (f := 26) (args := #[.pointer (some ⟨w.heap.size, 0, none⟩)]) (by simp) (by simp [go_sem]) ?_
  refine (catch_idle ⟨w.heap.size, 0, none⟩ _).mono ?_
  rintro e u' w'' ⟨rfl, rfl, rfl⟩
  have k2 : (w1.setCell ⟨w.heap.size, 0, none⟩ (.bool true)).cell? ⟨w.heap.size, 0, none⟩ = some (.bool true) := World.cell?_setCell_same _ _ _ kc
  have hs1 := hK.size
  rw [hsz] at hs1
  have main : Listed L b2 b3 w (w1.setCell ⟨w.heap.size, 0, none⟩ (.bool true)) := by
    refine ⟨o, blk_far Q1.out (by show b2 ≠ w.heap.size; omega) _, ?_, (Q3.out.keep (fun c hc _ => ?_)).less (by simp), hK.os, hK.tape, hK.output, by simp; omega, fun j hj n1 n2 => ?_⟩
    · rw [World.cell?_setCell_other _ _ _ _ (by intro h; cases h; omega)]; exact q2
    · rw [hsz] at hc
      rw [heap_setCell_other _ _ _ _ (by show c ≠ w.heap.size; omega)]
    · rw [heap_setCell_other _ _ _ _ (by show j ≠ w.heap.size; omega), hK.block j (by omega) n1 n2]
      exact Below.heap_alloc w _ j hj
  generalize w1.setCell ⟨w.heap.size, 0, none⟩ (.bool true) = W at k2 main ⊢
  simp [Leaves, settle, results, Tryd.results17, go_sem, k2]
  exact main
end
set_option maxHeartbeats 4000000
theorem two_blocks (w : World) (o1 o2 : Obj) : ((w.alloc o1).alloc o2).heap[w.heap.size]? = some o1 ∧ ((w.alloc o1).alloc o2).heap[w.heap.size + 1]? = some o2 := by
  have h2 := blk_new (w.alloc o1) o2
  have h1 := blk_new w o1
  simp only [World.size_alloc] at h1 h2
  refine ⟨?_, h2⟩
  rw [Below.heap_alloc _ _ _ (by simp only [World.size_alloc]; omega)]
  exact h1
set_option maxRecDepth 100000 in
theorem implRemaining (n : Nat) (hn : n ≤ 1000) (L : St) (hl : L.n ≤ 200000) (hin : Inside n L) (ts : List (List UInt8)) (hts : ts.length ≤ 100) (A : Option Addr) (cap : Nat) (hcap : ts.length ≤ cap) (w : World)
    (hr : Kd.C Kd.string w A ts.length (ts.map bs))
    (HP : ∀ W, Below w.heap.size w W → Calls Tryd.prog 24 #[.int .i64 (n : Int), .slice A ts.length cap, .bool false] W (Handed L W)) :
    Calls Tryd.prog 13 #[.int .i64 (n : Int), .slice A ts.length cap] w fun e w' => ∃ v, e = .returned (.tuple #[v, .bool true]) ∧ w'.ownsRow w.heap.size 3 1 v (selL n L.f).length (nums .i64 (selL n L.f)) ∧ Below w.heap.size w w' := by
  have hmf : ∀ (fn : Fn) (first cap : Array Value) (w : World), (Instr.makeFunc fn first cap).run Tryd.prog w = .ok (.func fn first cap) w := fun _ _ _ _ => rfl
  have HFew : ∀ W, Below w.heap.size w W → Calls Tryd.prog 16 #[.int .i64 (n : Int), .slice A ts.length cap] W fun e w' => e = .returned (.bool true) ∧ Below W.heap.size W w' ∧ w'.heap.size = W.heap.size := fun W hW => by
    have := few_calls n hn (ts.map bs) (by simpa using hts) A cap (by simpa using hcap) W (by rw [List.length_map]; exact Kd.C_below hr hW)
    rwa [List.length_map] at this
  have hB3 : Below w.heap.size w ((w.alloc (.cells #[.int .i64 (n : Int)] 3)).alloc (.cells #[.slice A ts.length cap] 22)) := (((Below.refl _ w).alloc (by first | exact Nat.le_refl _ | (simp only [World.size_alloc]; omega)) _).alloc (by first | exact Nat.le_refl _ | (simp only [World.size_alloc]; omega)) _)
  have H := fun (W w1 : World) (hW : W = ((w.alloc (.cells #[.int .i64 (n : Int)] 3)).alloc (.cells #[.slice A ts.length cap] 22))) (hb1 : Below W.heap.size W w1) (hs1 : w1.heap.size = W.heap.size) => (by
    subst hW
    obtain ⟨t1, t2⟩ := two_blocks w (.cells #[.int .i64 (n : Int)] 3) (.cells #[.slice A ts.length cap] 22)
    have hsz : w1.heap.size = w.heap.size + 1 + 1 := by rw [hs1]; simp only [World.size_alloc]
    have hb2 := below_alloc (below_alloc hb1 (.cells #[.map none] 44)) (.cells #[.nilIface] 40)
    have hB4 := hB3.trans (hb2.mono hB3.size)
    have m3 : ((w1.alloc (.cells #[.map none] 44)).alloc (.cells #[.nilIface] 40)).heap[w1.heap.size]? = some (.cells #[.map none] 44 (0, 0)) := blk_alloc (blk_new w1 _) _
    have m4 : ((w1.alloc (.cells #[.map none] 44)).alloc (.cells #[.nilIface] 40)).heap[w1.heap.size + 1]? = some (.cells #[.nilIface] 40 (0, 0)) := by have := blk_new (w1.alloc (.cells #[.map none] 44)) (.cells #[.nilIface] 40); rwa [World.size_alloc] at this
    refine (calmRemaining n L A ts.length cap (w.heap.size) (w.heap.size + 1) w1.heap.size (w1.heap.size + 1) (.map none) ((w1.alloc (.cells #[.map none] 44)).alloc (.cells #[.nilIface] 40)) (HP _ (hB4.alloc hB4.size _)) (pw_cell_below hb2 (blk_cell t1 0)) (pw_cell_below hb2 (blk_cell t2 0)) m3 m4 (by omega)).mono ?_
    rintro e w2 ⟨he, o, q1, q2, q3, hK⟩
    have hs := hK.size
    simp only [World.size_alloc] at hs
    refine ⟨he, o, q1, q2, q3.less (by simp only [World.size_alloc]; omega), ⟨hK.os.trans hB4.os, hK.tape.trans hB4.tape, hK.output.trans hB4.output, by omega, fun j hj => ?_⟩⟩
    exact (hK.block j (by simp only [World.size_alloc]; omega) (by omega) (by omega)).trans (hB4.block j hj)
    : Calls Tryd.prog 17 #[.func (.func 23) #[] #[.pointer (some ⟨w.heap.size, 0, none⟩), .pointer (some ⟨w.heap.size + 1, 0, none⟩), .pointer (some ⟨w1.heap.size, 0, none⟩), .pointer (some ⟨w1.heap.size + 1, 0, none⟩)]] ((w1.alloc (.cells #[.map none] 44)).alloc (.cells #[.nilIface] 40)) fun e w2 => e = .returned (.bool true) ∧ ∃ o, w2.heap[w1.heap.size]? = some (.cells #[.map o] 44 (0, 0)) ∧ w2.cell? ⟨w1.heap.size + 1, 0, none⟩ = some .nilIface ∧ Mv w.heap.size o L w2 ∧ Below w.heap.size w w2)
  have HC := Lib.hid (fun w1 => H _ w1 rfl)
  have HF := Lib.hid (HFew _ hB3)
  have HPg := Lib.hid (fun o W (hM : Mv w.heap.size o L W) => pages_any n L hl hin w.heap.size o W hM)
  clear H HFew hr HP hin hB3
  generalize selL n L.f = S at *
  go_enter Tryd.func13, Tryd.ntmps13
  go_wp2_with (first
    | (go_at_call 16; refine HF.out.mono ?_; rintro e w1 ⟨rfl, hb1, hs1⟩; have HC1 := Lib.hid (HC.out w1 hb1 hs1); have HS1 := Lib.hid hs1; clear hb1 hs1)
    | (go_at_call 17; refine HC1.out.mono ?_; rintro e w2 ⟨rfl, o, q1, q2, q3, hB⟩; have k2 := blk_cell q1 0; have HB := Lib.hid hB; have HQ := Lib.hid (HPg.out o w2 q3); clear q1 q3 hB)
    | (go_at_call 22; refine HQ.out.mono ?_; rintro e w3 ⟨v, rfl, ho, hB3⟩))
  exact bodyPost_ret (v := .tuple #[v, .bool true]) (by simp [results, Tryd.results13, go_sem]) rfl ⟨_, rfl, own_weaken ho HB.out.size, below_step HB.out hB3⟩
end Go.Proofs.YthfihamhkhnckaaDoor.Sel

namespace Go.Proofs.YthfihamhkhnckaaDoor.Sel
open Go.Maps Go.Sort Go.RowKit Go.ChangeShapes Go.Proofs.YthfihamhkhnckaaDoorW.PrintWords

section
variable {ops : Array Oper} {rest : List Oper} {o : Oper} {a : Act} {Q : Exit → Act → World → Prop}
set_option maxRecDepth 100000 in
/-- A page's word stored: nothing but the map has turned. -/
theorem updg {T : TypeId} (hT : Tryd.prog.underlying T = some (.map 3 4)) (w : World) (hg : o.guard = none) (m x v : Operand) (hop : o.op = Op.mapUpdate T m x v) {B c : Nat} {l : St} (hC : Cp B c l w) (hl : l.n ≤ 2000000) (p : Int) (hp : (Lit.int .i64 p).wf = true) (neg : Bool)
    (hm : a.eval m = .map (some c)) (hx : a.eval x = .int .i64 p) (hv : a.eval v = .bool (!neg)) (hK : ∀ w', Cp B c (proc neg p l) w' → w.grownBy w' (some c) → wpList Tryd.prog ops Q rest (a.put o.dst undef) w') :
    wpList Tryd.prog ops Q (o :: rest) a w := by
  obtain ⟨hc, D, ho, hr⟩ := hC
  refine wpList_mapUpdate_own w hg m x v T hop 3 4 keyed hT (plainElem (H := Unit) Tryd.prog 4) c l.n D hm ho (by unfold maxLen; omega) _ _ (.int .i64 p) hx hv (keyOf_int_mk Tryd.underlying3 hp) (.lit (.bool (!neg))) [] (plainElem_bool Tryd.underlying4 _) ?_
  intro w' h1 h2
  exact hK w' ⟨hc, _, h1, hr.put p _⟩ h2
end
theorem Cp.congr {B c : Nat} {l l' : St} {w : World} (H : Cp B c l w) (hn : l.n ≤ l'.n) (hf : ∀ p, l.f p = l'.f p) : Cp B c l' w := by
  obtain ⟨hc, D, ho, hr⟩ := H
  have : l.f = l'.f := funext hf
  exact ⟨hc, D, ho.mono hn, this ▸ hr⟩
/-- All pages but those of a list. -/
def butL (n : Nat) (ss : List Int) (p : Int) : Option Bool := if p ∈ ss then some false else (procN false n 1 St.new).f p
theorem all_f (n : Nat) (p : Int) : (procN false n 1 St.new).f p = if 1 ≤ p ∧ p ≤ n then some true else none := by
  induction n with
  | zero => rw [if_neg (by omega)]; rfl
  | succ n ih =>
    show (if p = 1 + (n : Int) then some (!false) else (procN false n 1 St.new).f p) = _
    by_cases h : p = 1 + (n : Int)
    · rw [if_pos h, if_pos (by omega)]; rfl
    · rw [if_neg h, ih]
      by_cases h2 : 1 ≤ p ∧ p ≤ n
      · rw [if_pos h2, if_pos (by omega)]
      · rw [if_neg h2, if_neg (by omega)]
theorem all_n (n : Nat) : (procN false n 1 St.new).n = n := by
  induction n with
  | zero => rfl
  | succ n ih => simp only [procN, proc, ih]
/-- What remains. -/
def remS (n : Nat) (l : St) : St := ⟨n + l.n, fun p => if l.f p = some true then some false else if 1 ≤ p ∧ p ≤ n then some true else none⟩
set_option maxRecDepth 100000 in
set_option maxHeartbeats 4000000 in
theorem remaining_calls (n : Nat) (hn : n ≤ 1000) (M : Nat → St) (ts : List (List UInt8)) (hts : ts.length ≤ 100) (hE : Run n ts M) (A : Option Addr) (cap : Nat) (w : World)
    (hcell : ∀ i (h : i < ts.length), ∃ ad, A = some ad ∧ w.cell? (ad.add i) = some (.string (bs (ts[i]'h)))) :
    Calls Tryd.prog 24 #[.int .i64 (n : Int), .slice A ts.length cap, .bool false] w (Handed (remS n (M ts.length)) w) := by
  have hmm := @run_makeMap Tryd.prog
  have hln := hE.small ts.length (Nat.le_refl _)
  have HS := Lib.hid (selected_calls n M ts hts hE A cap false w hcell)
  clear hcell hE
  generalize M ts.length = L at *
  go_enter Tryd.func24, Tryd.ntmps24
  go_wp2_with (go_at_call 29; refine HS.out.mono ?_; rintro e w1 ⟨rfl, h1, h2⟩; have HC1 := Lib.hid h1; have HB1 := Lib.hid h2; clear h1 h2)
  have HM := Lib.hid (Cp.made w1 w1.heap.size (Nat.le_refl _))
  have HB2 := Lib.hid ((Below.refl _ w1).alloc (Nat.le_refl _) (.map #[] 0))
  go_loopw [11] (fun v wr => ∃ k : Nat, v = .int .i64 (1 + (k : Int)) ∧ k ≤ n ∧ Hid (Cp w1.heap.size w1.heap.size (procN false k 1 St.new) wr) ∧ Hid (Below w1.heap.size w1 wr)) (fun v _ => n - (intOf v - 1).toNat)
  case atStart => exact ⟨0, by simp, by omega, HM, HB2⟩
  case round =>
    obtain ⟨k, rfl, hk, hC, hb⟩ := hrel
    have hsz := hb.out.size
    have hpl := procN_length false k 1 St.new
    by_cases hlt : k < n
    · have hl9 := Nat.le_trans hpl (show St.new.n + k ≤ 2000000 by simp [St.new]; omega)
      go_wp2_with (at_mapUpdate; refine upd Tryd.underlying44 _ rfl (.tmp 30) (.tmp 31) (.const (.bool true)) rfl hC.out hsz hl9 (1 + (k : Int)) (WalkArith.wf_i64 (by omega)) false rfl rfl rfl ?_; intro w9 h1 h2)
      exact ⟨⟨k + 1, by simp; omega, by omega, Lib.hid h1, Lib.hid (hb.out.trans h2)⟩, by simp [intOf]; omega⟩
    · obtain rfl : k = n := by omega
      have hall := all_n k
      have HL := Lib.hid (HC1.out.below hb.out)
      obtain ⟨_, D, hown, hr⟩ := HL.out
      have hszD := owns_size hown
      have hbl := hown.lt
      have HR := Lib.hid hr
      have hlt1 := HC1.out.lt
      have HBw := Lib.hid (below_step HB1.out hb.out)
      have hs9 := hb.out.size
      have hcl := hC.out.lt
      clear hr HL hpl
      go_wp2_with (at_range; refine wpList_range_own _ rfl _ 44 rfl 3 4 keyed Tryd.underlying44 _ w.heap.size _ D rfl hown ?_; intro w0 hrg0 hg0 hs0)
      go_frame
      have HC2 := Lib.hid (hC.out.keep (hg0.block _ hcl (by simp)))
      have HB3 := Lib.hid (HBw.out.grown hg0 HBw.out.size (fun j hj => by cases hj))
      have hs7 := HB1.out.size
      have hr1 : w.heap.size ≤ wr.heap.size := by omega
      clear hg0 hs0 hown hb hC HBw
      generalize wr.heap.size = r at *
      go_loopw [12] (fun _ wt => ∃ (left : Lit → Bool) (cnt : Nat) (ss : List Int), Hid (wt.ranges Tryd.prog 3 (plainElem (H := Unit) Tryd.prog 4) w.heap.size r L.n D left cnt) ∧ ss.length + cnt ≤ Maps.size D ∧
          Hid (Cp w1.heap.size w1.heap.size ⟨k + ss.length, butL k ss⟩ wt) ∧ Hid (Got L.f left ss) ∧ Hid (Below w.heap.size w wt))
        (fun _ wt => wt.rangeLeft w.heap.size r)
      case atStart =>
        exact ⟨_, _, [], Lib.hid hrg0, by simp, Lib.hid (HC2.out.congr (by rw [hall]; simp) (fun p => by simp [butL])), Lib.hid (Got.start HR.out), HB3⟩
      case round =>
        obtain ⟨left, cnt, ss, hrg, hcs, hM, hG, hnx⟩ := hrel
        rename World => wt
        have hmx : k + ss.length ≤ 200000 := by omega
        go_wp2_with (first
          | (at_next; refine wpList_next_ranges _ rfl _ rfl 3 keyed (plainElem (H := Unit) Tryd.prog 4) (Value.int .i64) Value.bool (fun key kl hk => by obtain ⟨x, rfl, _⟩ := Maps.keyOf_int_inv Tryd.underlying3 hk; exact ⟨x, rfl⟩) (fun v y hv => by obtain ⟨c, rfl, _⟩ := pe_inv hv; exact ⟨c, rfl⟩) w.heap.size r L.n D _ _ rfl hrg.out ?_ ?_
             intro hc0 hl0
             rotate_left
             intro x c kl yv w2 cnt2 hkey hlk hv hat hrg2 hlt hg2 hs2 hen
             obtain ⟨x', ex, rfl, hwx⟩ := Maps.keyOf_int_inv Tryd.underlying3 hkey
             cases ex
             obtain ⟨c', ec, hy⟩ := pe_inv hv
             cases ec
             cases hy
             have HM2 := Lib.hid (hM.out.keep (hg2.block _ hM.out.lt (fun e => by cases e; omega)))
             have HB4 := Lib.hid (hnx.out.grown hg2 hnx.out.size (fun j hj => by cases hj; exact hr1))
             have HG2 := Lib.hid (hG.out.step HR.out hlk hat)
             have HRg2 := Lib.hid hrg2
             clear hs2 hrg2 hg2 hat hlk hv hkey
             cases c)
          | (at_mapUpdate; refine updg Tryd.underlying44 _ rfl (.tmp 40) (.tmp 41) (.const (.bool false)) rfl HM2.out (show k + ss.length ≤ 2000000 by omega) x hwx true rfl rfl rfl ?_; intro w9 h1 h2))
        · exact ⟨⟨_, cnt2, ss, HRg2, by omega, HM2, Lib.hid (by simpa using HG2.out), HB4⟩, by rw [HRg2.out.left_eq, hrg.out.left_eq]; exact hlt⟩
        · have hrg3 := HRg2.out.kept h2 (fun e => by have := Option.some.inj e; omega) (fun e => by have := Option.some.inj e; omega)
          refine ⟨⟨_, cnt2, Lib.hid hrg3, ss ++ [x], by simp; omega, Lib.hid (h1.congr (by simp [proc]; omega) (fun p => ?_)), Lib.hid (by simpa using HG2.out), Lib.hid (HB4.out.grown h2 HB4.out.size (fun j hj => by cases hj; exact hs7))⟩, by rw [hrg3.left_eq, hrg.out.left_eq]; exact hlt⟩
          show (if p = x then some (!true) else butL k ss p) = butL k (ss ++ [x]) p
          unfold butL
          by_cases hpx : p = x
          · simp [hpx]
          · simp [hpx]
        · refine bodyPost_ret (v := .tuple #[.map (some w1.heap.size), .nilIface]) (by simp [results, Tryd.results24, go_sem]) rfl ⟨some w1.heap.size, rfl, .inr ⟨_, rfl, (hM.out.congr (by show k + ss.length ≤ k + L.n; omega) (fun p => ?_)).less hs7⟩, hnx.out⟩
          have hm := hG.out.mem p
          show butL k ss p = (if L.f p = some true then some false else if 1 ≤ p ∧ p ≤ (k : Int) then some true else none)
          unfold butL
          rw [all_f]
          by_cases hp : L.f p = some true
          · rw [if_pos (hm.2 ⟨hp, hl0 _⟩), if_pos hp]
          · rw [if_neg (fun h => hp (hm.1 h).1), if_neg hp]
end Go.Proofs.YthfihamhkhnckaaDoor.Sel
