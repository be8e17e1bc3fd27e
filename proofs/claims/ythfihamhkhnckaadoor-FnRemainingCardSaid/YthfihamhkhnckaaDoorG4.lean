/-
FnCollected, FnSelected, FnRemaining: the forms of a part: walks and plain laws. Conditions: as each theorem says.
-/
import Derived.Test.YthfihamhkhnckaaDoorG3

namespace Go.Proofs.YthfihamhkhnckaaDoor
open Go.RowKit Go.ChangeShapes Go.Proofs.YthfihamhkhnckaaDoorW.PrintWords

/-- A token without its sign puts m pages from a on, or takes them out. -/
structure Norm (n : Nat) (v : List UInt8) (m : Nat) (a : Int) : Prop where
  few : m ≤ 1000
  head : ∃ x r, v = x :: r ∧ x ≠ 33 ∧ x ≠ 110 ∧ x ≠ 101 ∧ x ≠ 111
  calls : ∀ (neg : Bool) (i : Int) (TK : ByteArray) (l : List Int) (B c : Nat) (w : World), l.length ≤ 900000 → Cp B c l w → B ≤ w.heap.size → Calls Tryd.prog 38 #[.int .i64 (n : Int), .int .i64 i, .string TK, .string (bs v), .bool neg, .pointer (some ⟨c, 0, none⟩)] w (Done B c (procN neg m a l) w)
theorem Norm.eff {n m : Nat} {v : List UInt8} {a : Int} (h : Norm n v m a) : Eff n v (procN false m a) := by
  refine ⟨fun l => Nat.le_trans (procN_length _ _ _ _) (by have := h.few; omega), fun i l B c w hl hC hB => ?_⟩
  obtain ⟨x, r, rfl, h1, h2, h3, h4⟩ := h.head
  exact handle_plain x r ⟨h1, h2⟩ ⟨fun e => h3 (by injection e), fun e => h4 (by injection e)⟩ n i B c w _ (h.calls false i _ l B c w hl hC hB)
theorem Norm.away {n m : Nat} {v : List UInt8} {a : Int} (h : Norm n v m a) (x : UInt8) (hx : x = 33 ∨ x = 110) : Eff n (x :: v) (procN true m a) := by
  refine ⟨fun l => Nat.le_trans (procN_length _ _ _ _) (by have := h.few; omega), fun i l B c w hl hC hB => ?_⟩
  obtain ⟨y, r, hv, _⟩ := h.head
  exact handle_away x v (by rw [hv]; simp) hx n i B c w _ (h.calls true i _ l B c w hl hC hB)
section
variable (n : Nat) (hn : n ≤ 1000) (ds es : List UInt8) (hds : Num ds) (hes : Num es)
theorem Num.headOk {ds : List UInt8} (hds : Num ds) (t : List UInt8) : ∃ x r, ds ++ t = x :: r ∧ x ≠ 33 ∧ x ≠ 110 ∧ x ≠ 101 ∧ x ≠ 111 := by
  obtain ⟨c, r, rfl, h1, h2⟩ := hds.cons
  refine ⟨c, r ++ t, rfl, ?_, ?_, ?_, ?_⟩ <;> (rintro rfl; revert h1 h2; decide)
include hn
theorem norm_all : Norm n [45, 108] n 1 := ⟨hn, ⟨45, _, rfl, by decide, by decide, by decide, by decide⟩, fun neg i TK l B c w hl hC hB => norm_dash [108] neg n i TK B c w hB _ (prefix_l l neg n hn hl B c w hC hB)⟩
theorem norm_last : Norm n [108] 1 (n : Int) := ⟨by omega, ⟨108, _, rfl, by decide, by decide, by decide, by decide⟩, fun neg i TK l B c w hl hC hB => norm_l [] neg n i TK B c w hB _ (page_l l neg n hn hl B c w hC hB)⟩
include hds
theorem norm_toLast : Norm n (45 :: 108 :: 45 :: ds) (n - val ds) 1 := ⟨by omega, ⟨45, _, rfl, by decide, by decide, by decide, by decide⟩, fun neg i TK l B c w hl hC hB => norm_dash _ neg n i TK B c w hB _ (prefix_lD l ds hds neg n hn hl B c w hC hB)⟩
theorem norm_to : Norm n (45 :: ds) (min (val ds) n) 1 := ⟨by omega, ⟨45, _, rfl, by decide, by decide, by decide, by decide⟩, fun neg i TK l B c w hl hC hB => norm_dash _ neg n i TK B c w hB _ (prefix_D l ds hds neg n hn hl B c w hC hB)⟩
theorem norm_from : Norm n (ds ++ [45]) (n + 1 - val ds) (val ds : Nat) := ⟨by have := hds.val_pos; omega, hds.headOk _, fun neg i TK l B c w hl hC hB => norm_suffix ds hds neg n i TK B c w hB _ (suffix_D l ds hds neg n hn hl B c w hC hB)⟩
theorem norm_before : Norm n (108 :: 45 :: ds) (if val ds < n then 1 else 0) ((n : Int) - (val ds : Nat)) := ⟨by split <;> omega, ⟨108, _, rfl, by decide, by decide, by decide, by decide⟩, fun neg i TK l B c w hl hC hB => by
  have := norm_l (45 :: ds) neg n i TK B c w hB _ (page_lD l ds hds neg n hn hl B c w hC hB)
  split <;> rename_i h <;> simp only [h, if_true, if_false] at this <;> exact this⟩
theorem norm_behind : Norm n (108 :: 45 :: (ds ++ [45])) (if val ds < n then val ds + 1 else 0) ((n : Int) - (val ds : Nat)) := ⟨by split <;> omega, ⟨108, _, rfl, by decide, by decide, by decide, by decide⟩, fun neg i TK l B c w hl hC hB => by
  have := norm_l (45 :: (ds ++ [45])) neg n i TK B c w hB _ (page_lDx l ds hds neg n hn hl B c w hC hB)
  split <;> rename_i h <;> simp only [h, if_true, if_false] at this <;> exact this⟩
end
end Go.Proofs.YthfihamhkhnckaaDoor

namespace Go.Proofs.YthfihamhkhnckaaDoor
open Go.RowKit Go.ChangeShapes Go.Proofs.YthfihamhkhnckaaDoorW.PrintWords

theorem suf_tail (p t : List UInt8) (ht : t ≠ []) (h : (45 : UInt8) ∉ t) : (List.drop ((p ++ t).length - 1) (p ++ t) == [45]) = false := by
  rw [beq_eq_false_iff_ne]
  intro e
  have hl := List.length_pos_iff.2 ht
  rw [List.length_append, List.drop_append] at e
  have h1 : List.drop (p.length + t.length - 1) p = [] := List.drop_eq_nil_of_le (by omega)
  rw [h1, List.nil_append] at e
  have : (45 : UInt8) ∈ t := List.mem_of_mem_drop (i := p.length + t.length - 1 - p.length) (by rw [e]; simp)
  exact h this
theorem Num.start {ds : List UInt8} (hds : Num ds) (t : List UInt8) : ∃ c0 r0, ds ++ t = c0 :: r0 ∧ (49 ≤ c0.toNat ∧ c0.toNat ≤ 57) := by
  obtain ⟨c, r, rfl, h1, h2⟩ := hds.cons
  exact ⟨c, r ++ t, rfl, h1, h2⟩
section
variable (n : Nat) (hn : n ≤ 1000) (ds es : List UInt8) (hds : Num ds) (hes : Num es)
include hn hds
theorem normPage : Norm n ds (if val ds ≤ n then 1 else 0) (val ds : Nat) := ⟨by split <;> omega, by simpa using hds.headOk [], fun neg i TK l B c w hl hC hB => by
  obtain ⟨c0, r0, h0, hc⟩ := hds.start []
  rw [List.append_nil] at h0
  have hs := suf_tail [] ds hds.ne hds.no_dash
  rw [List.nil_append] at hs
  have := norm_page ds (by have := hds.four; omega) c0 r0 h0 hc hs (splitL_none 45 ds hds.no_dash) neg n i TK B c w hB _ (fun W hW => page_D l ds hds neg n hn hl B c W (hC.below hW) (Nat.le_trans hB hW.size))
  split <;> rename_i h <;> simp only [h, if_true, if_false] at this <;> exact this⟩
theorem normFromLast : Norm n (ds ++ [45, 108]) (n + 1 - val ds) (val ds : Nat) := ⟨by have := hds.val_pos; omega, hds.headOk _, fun neg i TK l B c w hl hC hB => by
  obtain ⟨c0, r0, h0, hc⟩ := hds.start [45, 108]
  have hs := suf_tail (ds ++ [45]) [108] (by simp) (by decide)
  rw [List.append_assoc] at hs
  exact norm_range _ (by have := hds.four; simp; omega) c0 r0 h0 hc hs [ds, [108]] (by rw [splitL_at 45 ds [108] hds.no_dash]; rfl) (by simp) neg n i TK B c w hB _ (fun g cap W hcl hW => range_Dl l ds hds neg n hn hl B c W (hC.below hW) (Nat.le_trans hB hW.size) g cap (hcl 0 ds rfl) (hcl 1 [108] rfl))⟩
include hes
theorem normRange : Norm n (ds ++ 45 :: es) (min (val es) n + 1 - val ds) (val ds : Nat) := ⟨by have := hds.val_pos; omega, hds.headOk _, fun neg i TK l B c w hl hC hB => by
  obtain ⟨c0, r0, h0, hc⟩ := hds.start (45 :: es)
  have hs := suf_tail (ds ++ [45]) es hes.ne hes.no_dash
  rw [List.append_assoc] at hs
  exact norm_range _ (by have := hds.four; have := hes.four; simp; omega) c0 r0 h0 hc hs [ds, es] (by rw [splitL_at 45 ds es hds.no_dash, splitL_none 45 es hes.no_dash]) (by simp) neg n i TK B c w hB _ (fun g cap W hcl hW => range_DE l ds es hds hes neg n hn hl B c W (hC.below hW) (Nat.le_trans hB hW.size) g cap (hcl 0 ds rfl) (hcl 1 es rfl))⟩
theorem normFromTo : Norm n (ds ++ 45 :: 108 :: 45 :: es) (n - val es + 1 - val ds) (val ds : Nat) := ⟨by have := hds.val_pos; omega, hds.headOk _, fun neg i TK l B c w hl hC hB => by
  obtain ⟨c0, r0, h0, hc⟩ := hds.start (45 :: 108 :: 45 :: es)
  have hs := suf_tail (ds ++ [45, 108, 45]) es hes.ne hes.no_dash
  rw [List.append_assoc] at hs
  exact norm_range _ (by have := hds.four; have := hes.four; simp; omega) c0 r0 h0 hc hs [ds, [108], es] (by rw [splitL_at 45 ds (108 :: 45 :: es) hds.no_dash, show (108 :: 45 :: es) = [108] ++ 45 :: es from rfl, splitL_at 45 [108] es (by decide), splitL_none 45 es hes.no_dash]) (by simp) neg n i TK B c w hB _ (fun g cap W hcl hW => range_DlE l ds es hds hes neg n hn hl B c W (hC.below hW) (Nat.le_trans hB hW.size) g cap (hcl 0 ds rfl) (hcl 1 [108] rfl) (hcl 2 es rfl))⟩
end
end Go.Proofs.YthfihamhkhnckaaDoor

namespace Go.Proofs.YthfihamhkhnckaaDoor

/-- The forms of a part without its sign: text, kind, first and second number. -/
inductive Body : List UInt8 → Int → Int → Int → Prop
  | last : Body [108] 10 0 0
  | all : Body [45, 108] 6 0 0
  | toLast (ds : List UInt8) (h : Num ds) : Body (45 :: 108 :: 45 :: ds) 7 (val ds : Nat) 0
  | before (ds : List UInt8) (h : Num ds) : Body (108 :: 45 :: ds) 11 (val ds : Nat) 0
  | behind (ds : List UInt8) (h : Num ds) : Body (108 :: 45 :: (ds ++ [45])) 12 (val ds : Nat) 0
  | upTo (ds : List UInt8) (h : Num ds) : Body (45 :: ds) 5 (val ds : Nat) 0
  | page (ds : List UInt8) (h : Num ds) : Body ds 2 (val ds : Nat) 0
  | «from» (ds : List UInt8) (h : Num ds) : Body (ds ++ [45]) 3 (val ds : Nat) 0
  | fromLast (ds : List UInt8) (h : Num ds) : Body (ds ++ [45, 108]) 8 (val ds : Nat) 0
  | fromTo (ds es : List UInt8) (h : Num ds) (h2 : Num es) : Body (ds ++ 45 :: 108 :: 45 :: es) 9 (val ds : Nat) (val es : Nat)
  | range (ds es : List UInt8) (h : Num ds) (h2 : Num es) : Body (ds ++ 45 :: es) 4 (val ds : Nat) (val es : Nat)
/-- The first and the last page that a part is of. -/
def reachOf (k a b n : Int) : Int × Int :=
  if k = 2 then (a, a) else if k = 3 then (a, n) else if k = 8 then (a, n) else if k = 4 then (a, b) else if k = 5 then (1, a) else if k = 6 then (1, n) else if k = 7 then (1, n - a)
  else if k = 9 then (a, n - b) else if k = 10 then (n, n) else if k = 11 then (n - a, n - a) else (n - a, n)
theorem body_norm {v : List UInt8} {k a b : Int} (h : Body v k a b) (n : Nat) (hn : n ≤ 1000) (h1 : 1 ≤ (reachOf k a b n).1) (h2 : 1 ≤ (reachOf k a b n).2) :
    ∃ m : Nat, Norm n v m (reachOf k a b n).1 ∧ m = (min (reachOf k a b n).2 n + 1 - (reachOf k a b n).1).toNat := by
  cases h with
  | last => exact ⟨_, norm_last n hn, by simp [reachOf]⟩
  | all => exact ⟨_, norm_all n hn, by simp [reachOf]⟩
  | toLast ds h => exact ⟨_, norm_toLast n hn ds h, by simp [reachOf] at *; try omega⟩
  | before ds h => exact ⟨_, norm_before n hn ds h, by simp [reachOf] at *; split <;> omega⟩
  | behind ds h => exact ⟨_, norm_behind n hn ds h, by simp [reachOf] at *; split <;> omega⟩
  | upTo ds h => exact ⟨_, norm_to n hn ds h, by simp [reachOf] at *; try omega⟩
  | page ds h => exact ⟨_, normPage n hn _ h, by simp [reachOf] at *; split <;> omega⟩
  | «from» ds h => exact ⟨_, norm_from n hn ds h, by simp [reachOf] at *; try omega⟩
  | fromLast ds h => exact ⟨_, normFromLast n hn ds h, by simp [reachOf] at *; try omega⟩
  | fromTo ds es h g2 => exact ⟨_, normFromTo n hn ds es h g2, by simp [reachOf] at *; try omega⟩
  | range ds es h g2 => exact ⟨_, normRange n hn ds es h g2, by simp [reachOf] at *; try omega⟩
end Go.Proofs.YthfihamhkhnckaaDoor
