/-
FnCollected: a token's effect at pages and ranges: joined. Conditions: one to four digits; at most 1000 pages.
-/
import Derived.Test.YthfihamhkhnckaaDoorK11
namespace Go.Proofs.YthfihamhkhnckaaDoor
open Go.RowKit Go.ChangeShapes Go.Proofs.YthfihamhkhnckaaDoorW.PrintWords

theorem suf_tail (p t : List UInt8) (ht : t ≠ []) (h : (45 : UInt8) ∉ t) : (List.drop ((p ++ t).length - 1) (p ++ t) == [45]) = false := by
  rw [beq_eq_false_iff_ne]
  intro e
  have hl := List.length_pos_iff.2 ht
  rw [List.length_append, List.drop_append] at e
  have h1 : List.drop (p.length + t.length - 1) p = [] := List.drop_eq_nil_of_le (by omega)
  rw [h1, List.nil_append] at e
  have : (45 : UInt8) ∈ t := List.mem_of_mem_drop (i := p.length + t.length - 1 - p.length) (by rw [e]; simp)
  exact h this
theorem Num.start {ds : List UInt8} (hds : Num ds) (t : List UInt8) : ∃ c0 r0, ds ++ t = c0 :: r0 ∧ (49 ≤ c0.toNat ∧ c0.toNat ≤ 57) := by
  obtain ⟨c, r, rfl, h1, h2⟩ := hds.cons
  exact ⟨c, r ++ t, rfl, h1, h2⟩
section
variable (n : Nat) (hn : n ≤ 1000) (ds es : List UInt8) (hds : Num ds) (hes : Num es)
include hn hds
theorem normPage : Norm n ds (if val ds ≤ n then 1 else 0) (val ds : Nat) := ⟨by split <;> omega, by simpa using hds.headOk [], fun neg i TK l B c w hl hC hB => by
  obtain ⟨c0, r0, h0, hc⟩ := hds.start []
  rw [List.append_nil] at h0
  have hs := suf_tail [] ds hds.ne hds.no_dash
  rw [List.nil_append] at hs
  have := norm_page ds (by have := hds.four; omega) c0 r0 h0 hc hs (splitL_none 45 ds hds.no_dash) neg n i TK B c w hB _ (fun W hW => page_D l ds hds neg n hn hl B c W (hC.below hW) (Nat.le_trans hB hW.size))
  split <;> rename_i h <;> simp only [h, if_true, if_false] at this <;> exact this⟩
theorem normFromLast : Norm n (ds ++ [45, 108]) (n + 1 - val ds) (val ds : Nat) := ⟨by have := hds.val_pos; omega, hds.headOk _, fun neg i TK l B c w hl hC hB => by
  obtain ⟨c0, r0, h0, hc⟩ := hds.start [45, 108]
  have hs := suf_tail (ds ++ [45]) [108] (by simp) (by decide)
  rw [List.append_assoc] at hs
  exact norm_range _ (by have := hds.four; simp; omega) c0 r0 h0 hc hs [ds, [108]] (by rw [splitL_at 45 ds [108] hds.no_dash]; rfl) (by simp) neg n i TK B c w hB _ (fun g cap W hcl hW => range_Dl l ds hds neg n hn hl B c W (hC.below hW) (Nat.le_trans hB hW.size) g cap (hcl 0 ds rfl) (hcl 1 [108] rfl))⟩
include hes
theorem normRange : Norm n (ds ++ 45 :: es) (min (val es) n + 1 - val ds) (val ds : Nat) := ⟨by have := hds.val_pos; omega, hds.headOk _, fun neg i TK l B c w hl hC hB => by
  obtain ⟨c0, r0, h0, hc⟩ := hds.start (45 :: es)
  have hs := suf_tail (ds ++ [45]) es hes.ne hes.no_dash
  rw [List.append_assoc] at hs
  exact norm_range _ (by have := hds.four; have := hes.four; simp; omega) c0 r0 h0 hc hs [ds, es] (by rw [splitL_at 45 ds es hds.no_dash, splitL_none 45 es hes.no_dash]) (by simp) neg n i TK B c w hB _ (fun g cap W hcl hW => range_DE l ds es hds hes neg n hn hl B c W (hC.below hW) (Nat.le_trans hB hW.size) g cap (hcl 0 ds rfl) (hcl 1 es rfl))⟩
theorem normFromTo : Norm n (ds ++ 45 :: 108 :: 45 :: es) (n - val es + 1 - val ds) (val ds : Nat) := ⟨by have := hds.val_pos; omega, hds.headOk _, fun neg i TK l B c w hl hC hB => by
  obtain ⟨c0, r0, h0, hc⟩ := hds.start (45 :: 108 :: 45 :: es)
  have hs := suf_tail (ds ++ [45, 108, 45]) es hes.ne hes.no_dash
  rw [List.append_assoc] at hs
  exact norm_range _ (by have := hds.four; have := hes.four; simp; omega) c0 r0 h0 hc hs [ds, [108], es] (by rw [splitL_at 45 ds (108 :: 45 :: es) hds.no_dash, show (108 :: 45 :: es) = [108] ++ 45 :: es from rfl, splitL_at 45 [108] es (by decide), splitL_none 45 es hes.no_dash]) (by simp) neg n i TK B c w hB _ (fun g cap W hcl hW => range_DlE l ds es hds hes neg n hn hl B c W (hC.below hW) (Nat.le_trans hB hW.size) g cap (hcl 0 ds rfl) (hcl 1 [108] rfl) (hcl 2 es rfl))⟩
end
end Go.Proofs.YthfihamhkhnckaaDoor
