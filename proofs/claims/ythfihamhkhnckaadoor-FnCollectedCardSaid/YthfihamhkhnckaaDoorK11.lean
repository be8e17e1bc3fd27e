/-
FnCollected: a token's effect, form by form: joined. Conditions: one to four digits; at most 1000 pages.
-/
import Derived.Test.YthfihamhkhnckaaDoorK8
namespace Go.Proofs.YthfihamhkhnckaaDoor
open Go.RowKit Go.ChangeShapes Go.Proofs.YthfihamhkhnckaaDoorW.PrintWords

/-- A token without its sign puts m pages from a on, or takes them out. -/
structure Norm (n : Nat) (v : List UInt8) (m : Nat) (a : Int) : Prop where
  few : m ≤ 1000
  head : ∃ x r, v = x :: r ∧ x ≠ 33 ∧ x ≠ 110 ∧ x ≠ 101 ∧ x ≠ 111
  calls : ∀ (neg : Bool) (i : Int) (TK : ByteArray) (l : List Int) (B c : Nat) (w : World), l.length ≤ 900000 → Cp B c l w → B ≤ w.heap.size → Calls Tryd.prog 38 #[.int .i64 (n : Int), .int .i64 i, .string TK, .string (bs v), .bool neg, .pointer (some ⟨c, 0, none⟩)] w (Done B c (procN neg m a l) w)
theorem Norm.eff {n m : Nat} {v : List UInt8} {a : Int} (h : Norm n v m a) : Eff n v (procN false m a) := by
  refine ⟨fun l => Nat.le_trans (procN_length _ _ _ _) (by have := h.few; omega), fun i l B c w hl hC hB => ?_⟩
  obtain ⟨x, r, rfl, h1, h2, h3, h4⟩ := h.head
  exact handle_plain x r ⟨h1, h2⟩ ⟨fun e => h3 (by injection e), fun e => h4 (by injection e)⟩ n i B c w _ (h.calls false i _ l B c w hl hC hB)
theorem Norm.away {n m : Nat} {v : List UInt8} {a : Int} (h : Norm n v m a) (x : UInt8) (hx : x = 33 ∨ x = 110) : Eff n (x :: v) (procN true m a) := by
  refine ⟨fun l => Nat.le_trans (procN_length _ _ _ _) (by have := h.few; omega), fun i l B c w hl hC hB => ?_⟩
  obtain ⟨y, r, hv, _⟩ := h.head
  exact handle_away x v (by rw [hv]; simp) hx n i B c w _ (h.calls true i _ l B c w hl hC hB)
section
variable (n : Nat) (hn : n ≤ 1000) (ds es : List UInt8) (hds : Num ds) (hes : Num es)
theorem Num.headOk {ds : List UInt8} (hds : Num ds) (t : List UInt8) : ∃ x r, ds ++ t = x :: r ∧ x ≠ 33 ∧ x ≠ 110 ∧ x ≠ 101 ∧ x ≠ 111 := by
  obtain ⟨c, r, rfl, h1, h2⟩ := hds.cons
  refine ⟨c, r ++ t, rfl, ?_, ?_, ?_, ?_⟩ <;> (rintro rfl; revert h1 h2; decide)
include hn
theorem norm_all : Norm n [45, 108] n 1 := ⟨hn, ⟨45, _, rfl, by decide, by decide, by decide, by decide⟩, fun neg i TK l B c w hl hC hB => norm_dash [108] neg n i TK B c w hB _ (prefix_l l neg n hn hl B c w hC hB)⟩
theorem norm_last : Norm n [108] 1 (n : Int) := ⟨by omega, ⟨108, _, rfl, by decide, by decide, by decide, by decide⟩, fun neg i TK l B c w hl hC hB => norm_l [] neg n i TK B c w hB _ (page_l l neg n hn hl B c w hC hB)⟩
include hds
theorem norm_toLast : Norm n (45 :: 108 :: 45 :: ds) (n - val ds) 1 := ⟨by omega, ⟨45, _, rfl, by decide, by decide, by decide, by decide⟩, fun neg i TK l B c w hl hC hB => norm_dash _ neg n i TK B c w hB _ (prefix_lD l ds hds neg n hn hl B c w hC hB)⟩
theorem norm_to : Norm n (45 :: ds) (min (val ds) n) 1 := ⟨by omega, ⟨45, _, rfl, by decide, by decide, by decide, by decide⟩, fun neg i TK l B c w hl hC hB => norm_dash _ neg n i TK B c w hB _ (prefix_D l ds hds neg n hn hl B c w hC hB)⟩
theorem norm_from : Norm n (ds ++ [45]) (n + 1 - val ds) (val ds : Nat) := ⟨by have := hds.val_pos; omega, hds.headOk _, fun neg i TK l B c w hl hC hB => norm_suffix ds hds neg n i TK B c w hB _ (suffix_D l ds hds neg n hn hl B c w hC hB)⟩
theorem norm_before : Norm n (108 :: 45 :: ds) (if val ds < n then 1 else 0) ((n : Int) - (val ds : Nat)) := ⟨by split <;> omega, ⟨108, _, rfl, by decide, by decide, by decide, by decide⟩, fun neg i TK l B c w hl hC hB => by
  have := norm_l (45 :: ds) neg n i TK B c w hB _ (page_lD l ds hds neg n hn hl B c w hC hB)
  split <;> rename_i h <;> simp only [h, if_true, if_false] at this <;> exact this⟩
theorem norm_behind : Norm n (108 :: 45 :: (ds ++ [45])) (if val ds < n then val ds + 1 else 0) ((n : Int) - (val ds : Nat)) := ⟨by split <;> omega, ⟨108, _, rfl, by decide, by decide, by decide, by decide⟩, fun neg i TK l B c w hl hC hB => by
  have := norm_l (45 :: (ds ++ [45])) neg n i TK B c w hB _ (page_lDx l ds hds neg n hn hl B c w hC hB)
  split <;> rename_i h <;> simp only [h, if_true, if_false] at this <;> exact this⟩
end
end Go.Proofs.YthfihamhkhnckaaDoor
