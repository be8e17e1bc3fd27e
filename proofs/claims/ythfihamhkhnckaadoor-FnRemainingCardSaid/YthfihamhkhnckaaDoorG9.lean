/-
FnCollected, FnSelected, FnRemaining: what the specification selects: walks and plain laws. Conditions: as each theorem says.
-/
import Derived.Test.YthfihamhkhnckaaDoorG7
import Derived.Test.YthfihamhkhnckaaDoorG4
import Derived.Test.YthfihamhkhnckaaDoorG8
import Derived.Test.YthfihamhkhnckaaDoorG6
import Derived.Test.YthfihamhkhnckaaDoorG3

namespace Go.Proofs.YthfihamhkhnckaaDoor.Sel
open Go.Maps Go.RowKit Go.ChangeShapes Go.Proofs.YthfihamhkhnckaaDoorW.PrintWords

/-- A token without its sign puts m pages from a on, or takes them out. -/
structure Norm (n : Nat) (v : List UInt8) (m : Nat) (a : Int) : Prop where
  few : m ≤ 1000
  head : ∃ x r, v = x :: r ∧ x ≠ 33 ∧ x ≠ 110 ∧ x ≠ 101 ∧ x ≠ 111
  calls : ∀ (neg : Bool) (i : Int) (TK : ByteArray) (l : St) (B c : Nat) (w : World), l.n ≤ 900000 → Cp B c l w → B ≤ w.heap.size → Calls Tryd.prog 51 #[.int .i64 (n : Int), .int .i64 i, .string TK, .string (bs v), .bool neg, .map (some c)] w (Done B c (procN neg m a l) w)
theorem Norm.eff {n m : Nat} {v : List UInt8} {a : Int} (h : Norm n v m a) : Eff n v (procN false m a) := by
  refine ⟨fun l => Nat.le_trans (procN_length _ _ _ _) (by have := h.few; omega), fun i l B c w hl hC hB => ?_⟩
  obtain ⟨x, r, rfl, h1, h2, h3, h4⟩ := h.head
  exact handle_plain x r ⟨h1, h2⟩ ⟨fun e => h3 (by injection e), fun e => h4 (by injection e)⟩ n i B c w _ (h.calls false i _ l B c w hl hC hB)
theorem Norm.away {n m : Nat} {v : List UInt8} {a : Int} (h : Norm n v m a) (x : UInt8) (hx : x = 33 ∨ x = 110) : Eff n (x :: v) (procN true m a) := by
  refine ⟨fun l => Nat.le_trans (procN_length _ _ _ _) (by have := h.few; omega), fun i l B c w hl hC hB => ?_⟩
  obtain ⟨y, r, hv, _⟩ := h.head
  exact handle_away x v (by rw [hv]; simp) hx n i B c w _ (h.calls true i _ l B c w hl hC hB)
section
variable (n : Nat) (hn : n ≤ 1000) (ds es : List UInt8) (hds : Num ds) (hes : Num es)
include hn
theorem norm_all : Norm n [45, 108] n 1 := ⟨hn, ⟨45, _, rfl, by decide, by decide, by decide, by decide⟩, fun neg i TK l B c w hl hC hB => norm_dash [108] neg n i TK B c w hB _ (prefix_l l neg n hn hl B c w hC hB)⟩
theorem norm_last : Norm n [108] 1 (n : Int) := ⟨by omega, ⟨108, _, rfl, by decide, by decide, by decide, by decide⟩, fun neg i TK l B c w hl hC hB => norm_l [] neg n i TK B c w hB _ (page_l l neg n hn hl B c w hC hB)⟩
include hds
theorem norm_toLast : Norm n (45 :: 108 :: 45 :: ds) (n - val ds) 1 := ⟨by omega, ⟨45, _, rfl, by decide, by decide, by decide, by decide⟩, fun neg i TK l B c w hl hC hB => norm_dash _ neg n i TK B c w hB _ (prefix_lD l ds hds neg n hn hl B c w hC hB)⟩
theorem norm_to : Norm n (45 :: ds) (min (val ds) n) 1 := ⟨by omega, ⟨45, _, rfl, by decide, by decide, by decide, by decide⟩, fun neg i TK l B c w hl hC hB => norm_dash _ neg n i TK B c w hB _ (prefix_D l ds hds neg n hn hl B c w hC hB)⟩
theorem norm_from : Norm n (ds ++ [45]) (n + 1 - val ds) (val ds : Nat) := ⟨by have := hds.val_pos; omega, hds.headOk _, fun neg i TK l B c w hl hC hB => norm_suffix ds hds neg n i TK B c w hB _ (suffix_D l ds hds neg n hn hl B c w hC hB)⟩
theorem norm_before : Norm n (108 :: 45 :: ds) (if val ds < n then 1 else 0) ((n : Int) - (val ds : Nat)) := ⟨by split <;> omega, ⟨108, _, rfl, by decide, by decide, by decide, by decide⟩, fun neg i TK l B c w hl hC hB => by
  have := norm_l (45 :: ds) neg n i TK B c w hB _ (page_lD l ds hds neg n hn hl B c w hC hB)
  split <;> rename_i h <;> simp only [h, if_true, if_false] at this <;> exact this⟩
theorem norm_behind : Norm n (108 :: 45 :: (ds ++ [45])) (if val ds < n then val ds + 1 else 0) ((n : Int) - (val ds : Nat)) := ⟨by split <;> omega, ⟨108, _, rfl, by decide, by decide, by decide, by decide⟩, fun neg i TK l B c w hl hC hB => by
  have := norm_l (45 :: (ds ++ [45])) neg n i TK B c w hB _ (page_lDx l ds hds neg n hn hl B c w hC hB)
  split <;> rename_i h <;> simp only [h, if_true, if_false] at this <;> exact this⟩
end
end Go.Proofs.YthfihamhkhnckaaDoor.Sel

namespace Go.Proofs.YthfihamhkhnckaaDoor.Sel
open Go.Maps Go.RowKit Go.ChangeShapes Go.Proofs.YthfihamhkhnckaaDoorW.PrintWords

section
variable (n : Nat) (hn : n ≤ 1000) (ds es : List UInt8) (hds : Num ds) (hes : Num es)
include hn hds
theorem normPage : Norm n ds (if val ds ≤ n then 1 else 0) (val ds : Nat) := ⟨by split <;> omega, by simpa using hds.headOk [], fun neg i TK l B c w hl hC hB => by
  obtain ⟨c0, r0, h0, hc⟩ := hds.start []
  rw [List.append_nil] at h0
  have hs := suf_tail [] ds hds.ne hds.no_dash
  rw [List.nil_append] at hs
  have := norm_page ds (by have := hds.four; omega) c0 r0 h0 hc hs (splitL_none 45 ds hds.no_dash) neg n i TK B c w hB _ (fun W hW => page_D l ds hds neg n hn hl B c W (hC.below hW) (Nat.le_trans hB hW.size))
  split <;> rename_i h <;> simp only [h, if_true, if_false] at this <;> exact this⟩
theorem normFromLast : Norm n (ds ++ [45, 108]) (n + 1 - val ds) (val ds : Nat) := ⟨by have := hds.val_pos; omega, hds.headOk _, fun neg i TK l B c w hl hC hB => by
  obtain ⟨c0, r0, h0, hc⟩ := hds.start [45, 108]
  have hs := suf_tail (ds ++ [45]) [108] (by simp) (by decide)
  rw [List.append_assoc] at hs
  exact norm_range _ (by have := hds.four; simp; omega) c0 r0 h0 hc hs [ds, [108]] (by rw [splitL_at 45 ds [108] hds.no_dash]; rfl) (by simp) neg n i TK B c w hB _ (fun g cap W hcl hW => range_Dl l ds hds neg n hn hl B c W (hC.below hW) (Nat.le_trans hB hW.size) g cap (hcl 0 ds rfl) (hcl 1 [108] rfl))⟩
include hes
theorem normRange : Norm n (ds ++ 45 :: es) (min (val es) n + 1 - val ds) (val ds : Nat) := ⟨by have := hds.val_pos; omega, hds.headOk _, fun neg i TK l B c w hl hC hB => by
  obtain ⟨c0, r0, h0, hc⟩ := hds.start (45 :: es)
  have hs := suf_tail (ds ++ [45]) es hes.ne hes.no_dash
  rw [List.append_assoc] at hs
  exact norm_range _ (by have := hds.four; have := hes.four; simp; omega) c0 r0 h0 hc hs [ds, es] (by rw [splitL_at 45 ds es hds.no_dash, splitL_none 45 es hes.no_dash]) (by simp) neg n i TK B c w hB _ (fun g cap W hcl hW => range_DE l ds es hds hes neg n hn hl B c W (hC.below hW) (Nat.le_trans hB hW.size) g cap (hcl 0 ds rfl) (hcl 1 es rfl))⟩
theorem normFromTo : Norm n (ds ++ 45 :: 108 :: 45 :: es) (n - val es + 1 - val ds) (val ds : Nat) := ⟨by have := hds.val_pos; omega, hds.headOk _, fun neg i TK l B c w hl hC hB => by
  obtain ⟨c0, r0, h0, hc⟩ := hds.start (45 :: 108 :: 45 :: es)
  have hs := suf_tail (ds ++ [45, 108, 45]) es hes.ne hes.no_dash
  rw [List.append_assoc] at hs
  exact norm_range _ (by have := hds.four; have := hes.four; simp; omega) c0 r0 h0 hc hs [ds, [108], es] (by rw [splitL_at 45 ds (108 :: 45 :: es) hds.no_dash, show (108 :: 45 :: es) = [108] ++ 45 :: es from rfl, splitL_at 45 [108] es (by decide), splitL_none 45 es hes.no_dash]) (by simp) neg n i TK B c w hB _ (fun g cap W hcl hW => range_DlE l ds es hds hes neg n hn hl B c W (hC.below hW) (Nat.le_trans hB hW.size) g cap (hcl 0 ds rfl) (hcl 1 [108] rfl) (hcl 2 es rfl))⟩
end
theorem body_norm {v : List UInt8} {k a b : Int} (h : Body v k a b) (n : Nat) (hn : n ≤ 1000) (h1 : 1 ≤ (reachOf k a b n).1) (h2 : 1 ≤ (reachOf k a b n).2) :
    ∃ m : Nat, Norm n v m (reachOf k a b n).1 ∧ m = (min (reachOf k a b n).2 n + 1 - (reachOf k a b n).1).toNat := by
  cases h with
  | last => exact ⟨_, norm_last n hn, by simp [reachOf]⟩
  | all => exact ⟨_, norm_all n hn, by simp [reachOf]⟩
  | toLast ds h => exact ⟨_, norm_toLast n hn ds h, by simp [reachOf] at *; try omega⟩
  | before ds h => exact ⟨_, norm_before n hn ds h, by simp [reachOf] at *; split <;> omega⟩
  | behind ds h => exact ⟨_, norm_behind n hn ds h, by simp [reachOf] at *; split <;> omega⟩
  | upTo ds h => exact ⟨_, norm_to n hn ds h, by simp [reachOf] at *; try omega⟩
  | page ds h => exact ⟨_, normPage n hn _ h, by simp [reachOf] at *; split <;> omega⟩
  | «from» ds h => exact ⟨_, norm_from n hn ds h, by simp [reachOf] at *; try omega⟩
  | fromLast ds h => exact ⟨_, normFromLast n hn ds h, by simp [reachOf] at *; try omega⟩
  | fromTo ds es h g2 => exact ⟨_, normFromTo n hn ds es h g2, by simp [reachOf] at *; try omega⟩
  | range ds es h g2 => exact ⟨_, normRange n hn ds es h g2, by simp [reachOf] at *; try omega⟩
end Go.Proofs.YthfihamhkhnckaaDoor.Sel

namespace Go.Proofs.YthfihamhkhnckaaDoor.Sel
open Go.Maps Go.RowKit Go.ChangeShapes Go.Proofs.YthfihamhkhnckaaDoorW.PrintWords

theorem Run.snoc {n : Nat} {ts : List (List UInt8)} {M : Nat → St} {k : Nat} (h : Run n (ts.take k) M) (hk : k < ts.length) {F : St → St} (hF : Eff n (ts[k]'hk) F) :
    ∃ M', Run n (ts.take (k + 1)) M' ∧ M' (k + 1) = F (M k) := by
  refine ⟨fun i => if i ≤ k then M i else F (M k), ⟨by simpa using h.zero, fun i hi => ?_⟩, if_neg (by omega)⟩
  rw [List.length_take] at hi
  by_cases hik : i < k
  · obtain ⟨G, hG, he⟩ := h.step i (by rw [List.length_take]; omega)
    refine ⟨G, ?_, ?_⟩
    · rw [List.getElem_take] at hG ⊢
      exact hG
    · show (if i + 1 ≤ k then M (i + 1) else F (M k)) = G (if i ≤ k then M i else F (M k))
      rw [if_pos (by omega), if_pos (by omega), he]
  · obtain rfl : i = k := by omega
    refine ⟨F, ?_, ?_⟩
    · rw [List.getElem_take]
      exact hF
    · show (if i + 1 ≤ i then M (i + 1) else F (M i)) = F (if i ≤ i then M i else F (M i))
      rw [if_neg (by omega), if_pos (Nat.le_refl _)]
theorem norm_of {v : List UInt8} {k a b : Int} (h : Body v k a b) (n : Nat) (hn : n ≤ 1000) (h1 : 1 ≤ (reachOf k a b n).1) (h2 : 1 ≤ (reachOf k a b n).2) :
    Norm n v (min (reachOf k a b n).2 n + 1 - (reachOf k a b n).1).toNat (reachOf k a b n).1 := by
  obtain ⟨m, hm, rfl⟩ := body_norm h n hn h1 h2
  exact hm
theorem tok_effect {s : List UInt8} {k a b : Int} {aw : Bool} (h : Tok s k a b aw) (h0 : k ≠ 0) (h1 : k ≠ 1) : ∃ v, Body v k a b ∧ ∀ (n m : Nat) (p : Int), Norm n v m p → Eff n s (procN aw m p) := by
  cases h with
  | even => exact absurd rfl h0
  | odd => exact absurd rfl h1
  | plain h => exact ⟨_, h, fun n m p hN => hN.eff⟩
  | away x hx h => exact ⟨_, h, fun n m p hN => hN.away x hx⟩
/-- Every second page up to page j: even ones or odd ones. -/
def evJ (e : Bool) (j : Nat) (l : St) : St := if e then evN (j / 2) 2 l else evN ((j + 1) / 2) 1 l
theorem evJ_succ (e : Bool) (j : Nat) (l : St) : evJ e (j + 1) l = if (decide ((j + 1) % 2 = 0) == e) = true then sel1 (1 + (j : Int)) (evJ e j l) else evJ e j l := by
  cases e
  · show evN ((j + 1 + 1) / 2) 1 l = if (decide ((j + 1) % 2 = 0) == false) = true then sel1 (1 + (j : Int)) (evN ((j + 1) / 2) 1 l) else evN ((j + 1) / 2) 1 l
    by_cases h : (j + 1) % 2 = 0
    · rw [decide_eq_true h, if_neg (by decide), show (j + 1 + 1) / 2 = (j + 1) / 2 by omega]
    · rw [decide_eq_false h, if_pos (by decide), show (j + 1 + 1) / 2 = (j + 1) / 2 + 1 by omega]
      show sel1 (1 + 2 * (((j + 1) / 2 : Nat) : Int)) _ = _
      rw [show (1 : Int) + 2 * (((j + 1) / 2 : Nat) : Int) = 1 + (j : Int) by omega]
  · show evN ((j + 1) / 2) 2 l = if (decide ((j + 1) % 2 = 0) == true) = true then sel1 (1 + (j : Int)) (evN (j / 2) 2 l) else evN (j / 2) 2 l
    by_cases h : (j + 1) % 2 = 0
    · rw [decide_eq_true h, if_pos (by decide), show (j + 1) / 2 = j / 2 + 1 by omega]
      show sel1 (2 + 2 * ((j / 2 : Nat) : Int)) _ = _
      rw [show (2 : Int) + 2 * ((j / 2 : Nat) : Int) = 1 + (j : Int) by omega]
    · rw [decide_eq_false h, if_neg (by decide), show (j + 1) / 2 = j / 2 by omega]
theorem eff_even (n : Nat) (hn : n ≤ 1000) : Eff n [101, 118, 101, 110] (evJ true n) :=
  ⟨fun l => Nat.le_trans (evN_length _ _ _) (by omega), fun i l B c w hl hC hB => handle_even i l n hn hl B c w hC hB⟩
theorem eff_odd (n : Nat) (hn : n ≤ 1000) : Eff n [111, 100, 100] (evJ false n) :=
  ⟨fun l => Nat.le_trans (evN_length _ _ _) (by omega), fun i l B c w hl hC hB => handle_odd i l n hn hl B c w hC hB⟩
theorem tok_ev {s : List UInt8} {k a b : Int} {aw : Bool} (h : Tok s k a b aw) (hk : k = 0 ∨ k = 1) (n : Nat) (hn : n ≤ 1000) : Eff n s (evJ (k == 0) n) := by
  cases h with
  | even => exact eff_even n hn
  | odd => exact eff_odd n hn
  | plain h => have := h.bounds; omega
  | away x hx h => have := h.bounds; omega
theorem Inside.proc {n : Nat} {l : St} (h : Inside n l) (neg : Bool) (p : Int) (h1 : 1 ≤ p) (h2 : p ≤ n) : Inside n (proc neg p l) := by
  intro q hq
  by_cases hqp : q = p
  · rw [hqp]; exact ⟨h1, h2⟩
  · exact h q (by simpa [Sel.proc, hqp] using hq)
theorem Inside.procN {n : Nat} {l : St} (h : Inside n l) (neg : Bool) (m : Nat) (p : Int) (h1 : 1 ≤ p) (h2 : ∀ j : Nat, j < m → p + j ≤ n) : Inside n (procN neg m p l) := by
  induction m with
  | zero => exact h
  | succ m ih => exact (ih (fun j hj => h2 j (by omega))).proc neg _ (by omega) (h2 m (by omega))
theorem Inside.sel1 {n : Nat} {l : St} (h : Inside n l) (p : Int) (h1 : 1 ≤ p) (h2 : p ≤ n) : Inside n (sel1 p l) := by
  unfold Sel.sel1
  split
  · exact h
  · exact h.proc false p h1 h2
theorem Inside.evJ {n : Nat} {l : St} (h : Inside n l) (e : Bool) (j : Nat) (hj : j ≤ n) : Inside n (evJ e j l) := by
  induction j with
  | zero =>
    have : Sel.evJ e 0 l = l := by unfold Sel.evJ; cases e <;> rfl
    rw [this]; exact h
  | succ j ih =>
    rw [evJ_succ]
    split
    · exact (ih (by omega)).sel1 _ (by omega) (by omega)
    · exact ih (by omega)
/-- What reading a part comes to; of the text -l it is known. -/
theorem tok_calls2 (s : List UInt8) (hs : s.length ≤ 2147483647) (w : World) :
    Calls Tryd.prog 14 #[.string (bs s)] w fun e w' => ∃ k a b aw ok, e = .returned (.tuple #[tokV k a b aw, .bool ok]) ∧ (ok = true → Tok s k a b aw) ∧ (s = [45, 108] → k = 6 ∧ aw = false ∧ ok = true) ∧ Below w.heap.size w w' := by
  by_cases h : s = [45, 108]
  · subst h
    have hl : (bs [45, 108]).toList = [45, 108] := bs_toList _
    have hsg : Sgn (bs [45, 108]) (bs [45, 108]) false := ⟨by rw [hl]; rfl, by rw [hl]; rfl, .inr ⟨by rw [bs_size]; decide, by rw [hl]; rfl, .inr (.inr ⟨45, rfl, by decide, by decide, rfl, rfl⟩)⟩⟩
    refine (tok_all _ _ false hsg (by rw [hl]; rfl) (by rw [hl]; rfl) w).mono ?_
    rintro e w' ⟨rfl, hB⟩
    exact ⟨_, _, _, _, _, rfl, fun _ => .plain .all, fun _ => ⟨rfl, rfl, rfl⟩, hB⟩
  · refine (tok_calls s hs w).mono ?_
    rintro e w' ⟨k, a, b, aw, ok, rfl, h1, hB⟩
    exact ⟨_, _, _, _, _, rfl, h1, fun h2 => absurd h2 h, hB⟩
theorem procN_all (n : Nat) (l : St) (p : Int) : (procN false n 1 l).f p = if 1 ≤ p ∧ p ≤ n then some true else l.f p := by
  induction n with
  | zero => rw [if_neg (by omega)]; rfl
  | succ n ih =>
    show (if p = 1 + (n : Int) then some (!false) else (procN false n 1 l).f p) = _
    by_cases h : p = 1 + (n : Int)
    · rw [if_pos h, if_pos (by omega)]; rfl
    · rw [if_neg h, ih]
      by_cases h2 : 1 ≤ p ∧ p ≤ n
      · rw [if_pos h2, if_pos (by omega)]
      · rw [if_neg h2, if_neg (by omega)]
/-- Parts that are -l alone say all pages. -/
def AllL (n : Nat) (ts : List (List UInt8)) (k : Nat) (l : St) : Prop := (∀ t ∈ ts, t = [45, 108]) → ∀ p, l.f p = if k = 0 then none else if 1 ≤ p ∧ p ≤ n then some true else none
/-- A page's word in the table. -/
def wd : Option Bool → Int
  | none => 0
  | some true => 1
  | some false => -1
/-- The table says f of the pages from 1 to n. -/
structure Said (s n : Nat) (f : Int → Option Bool) (w : World) : Prop where
  row : ∃ cs : Array Value, w.heap[s]? = some (.cells cs 3 (0, 0)) ∧ cs.size = n + 1 ∧ ∀ i : Nat, 1 ≤ i → i ≤ n → cs[i]? = some (.int .i64 (wd (f i)))
theorem Said.cell {s n : Nat} {f : Int → Option Bool} {w : World} (h : Said s n f w) (i : Nat) (h1 : 1 ≤ i) (h2 : i ≤ n) : w.cell? ⟨s, i, none⟩ = some (.int .i64 (wd (f i))) ∧ w.frozen? ⟨s, i, none⟩ = false := by
  obtain ⟨cs, hb, _, hc⟩ := h.row
  exact ⟨(blk_cell hb i).trans (hc i h1 h2), blk_frozen hb i⟩
theorem Said.lt {s n : Nat} {f : Int → Option Bool} {w : World} (h : Said s n f w) : s < w.heap.size := by
  obtain ⟨cs, hb, _⟩ := h.row
  exact blk_lt hb
theorem Said.keep {s n : Nat} {f : Int → Option Bool} {w w1 : World} (h : Said s n f w) (e : w1.heap[s]? = w.heap[s]?) : Said s n f w1 := by
  obtain ⟨cs, hb, h1⟩ := h.row
  exact ⟨cs, e.trans hb, h1⟩
theorem Said.below {s n : Nat} {f : Int → Option Bool} {w w1 : World} (h : Said s n f w) (hb : Below w.heap.size w w1) : Said s n f w1 := h.keep (hb.block s h.lt)
theorem Said.put {s n : Nat} {f g : Int → Option Bool} {w : World} (h : Said s n f w) (p : Nat) (hp : p ≤ n) (b : Option Bool) (hg : ∀ q : Int, g q = if q = (p : Int) then b else f q) : Said s n g (w.setCell ⟨s, p, none⟩ (.int .i64 (wd b))) := by
  obtain ⟨cs, hb, hs, hc⟩ := h.row
  refine ⟨cs.setIfInBounds p (.int .i64 (wd b)), blk_set hb p _, by simpa using hs, fun i h1 h2 => ?_⟩
  rw [hg, Array.getElem?_setIfInBounds]
  by_cases hip : p = i
  · subst hip
    rw [if_pos rfl, if_pos (by omega), if_pos rfl]
  · rw [if_neg hip, if_neg (by omega)]
    exact hc i h1 h2
theorem Said.congr {s n : Nat} {f g : Int → Option Bool} {w : World} (h : Said s n f w) (hg : ∀ q : Int, g q = f q) : Said s n g w := (funext hg : g = f) ▸ h
theorem selL_succ (n : Nat) (f : Int → Option Bool) : selL (n + 1) f = selL n f ++ (if f ((n : Int) + 1) = some true then [(n : Int) + 1] else []) := by
  unfold selL
  rw [List.range_succ, List.map_append, List.filter_append]
  congr 1
  by_cases h : f ((n : Int) + 1) = some true
  · simp [h]
  · have : (f ((n : Int) + 1) == some true) = false := beq_eq_false_iff_ne.2 h
    simp [h, this]
end Go.Proofs.YthfihamhkhnckaaDoor.Sel

namespace Go.Proofs.YthfihamhkhnckaaDoor.Sel
open Go.Maps Go.RowKit Go.ChangeShapes Go.Proofs.YthfihamhkhnckaaDoorW.PrintWords

theorem Said.of_own {w : World} {B g n : Nat} (h : w.ownsRow B 3 1 (.slice (some ⟨g, 0, none⟩) (n + 1) (n + 1)) (List.replicate (n + 1) (0 : Int)).length (nums .i64 (List.replicate (n + 1) 0))) : Said g n (fun _ => none) w := by
  rw [List.length_replicate] at h
  rcases h.2 with ⟨h0, _⟩ | ⟨g', cap, cur, he, _, hb, h1, h2, h3, h4⟩
  · cases h0
  · cases he
    refine ⟨cur, hb, by omega, fun i hi1 hi2 => ?_⟩
    rw [Nat.mul_one] at h4
    rw [← Array.getElem?_toList]
    have h5 : cur.toList = nums .i64 (List.replicate (n + 1) 0) := by rw [← h4, List.take_of_length_le (by simp; omega)]
    rw [h5]
    simp [nums, wd, show i < n + 1 by omega]
def SelSaid (n : Nat) (ts : List (List UInt8)) (w : World) (e : Ending) (w' : World) : Prop :=
  ∃ v ok S, e = .returned (.tuple #[v, .bool ok]) ∧ w'.ownsRow w.heap.size 3 1 v S.length (nums .i64 S) ∧ (ok = true → ∃ M, Run n ts M ∧ Inside n (M ts.length) ∧ AllL n ts ts.length (M ts.length) ∧ S = selL n (M ts.length).f) ∧ (1 ≤ n → (∀ t ∈ ts, t = [45, 108]) → ok = true) ∧ Below w.heap.size w w'
set_option maxHeartbeats 8000000 in
set_option maxRecDepth 100000 in
theorem spec_selected (n : Nat) (hn : n ≤ 1000) (ts : List (List UInt8)) (hts : ts.length ≤ 100) (hlen : ∀ t ∈ ts, t.length ≤ 2147483647) (A : Option Addr) (cap : Nat) (w : World) (hT : Toks ts A w) :
    Calls Tryd.prog 10 #[.int .i64 (n : Int), .slice A ts.length cap] w (SelSaid n ts w) := by
  have hmk := print_make (P := Tryd.prog) 24 3 .i64 8 Tryd.underlying24 info_int (by decide) (n + 1) (by omega)
  rw [show ((n + 1 : Nat) : Int) = (n : Int) + 1 by omega] at hmk
  have HS0 := Lib.hid (Said.of_own (own_made' w w.heap.size 3 .i64 (n + 1) (Nat.le_refl _) (by omega)))
  have HB0 := Lib.hid (below_alloc (Below.refl _ w) (.cells (madeCells #[.int .i64 0] (n + 1)) 3))
  go_enter Tryd.func10, Tryd.ntmps10
  go_wp2_with fail
  clear hmk
  go_loopw [22] (fun vi wr => ∃ k : Nat, vi = .int .i64 (k : Int) ∧ k ≤ ts.length ∧ Hid (∃ M, Run n (ts.take k) M ∧ Inside n (M k) ∧ AllL n ts k (M k) ∧ Said w.heap.size n (M k).f wr) ∧ Hid (Below w.heap.size w wr)) (fun vi _ => ts.length - (intOf vi).toNat)
  case atStart =>
    exact ⟨0, rfl, by omega, Lib.hid ⟨fun _ => St.new, ⟨rfl, fun i h => absurd h (by simp)⟩, fun p hp => by simp [St.new] at hp, fun _ _ => rfl, HS0.out⟩, HB0⟩
  case round =>
    obtain ⟨k, rfl, hk, hP, hb⟩ := hrel
    clear HS0 HB0
    by_cases hlt : k < ts.length
    · obtain ⟨ad, rfl, hcl⟩ := hT k hlt
      have hcl := (hb.out.cell (World.block_lt_of_cell? w _ hcl)).trans hcl
      have HTok := Lib.hid (fun W => tok_calls2 (ts[k]'hlt) (hlen _ (List.getElem_mem _)) W)
      have HT := Lib.hid hT
      have HL := Lib.hid hlen
      clear hT hlen
      generalize bs (ts[k]'hlt) = T at *
      go_upto_region 6 with (first | (go_at_call 14; (with_reducible refine (HTok.out _).mono ?_); rintro e w1 ⟨a1, a2, a3, aw, is, rfl, hTk, hTl, hB1⟩; have HTk := Lib.hid hTk; have HTl := Lib.hid (fun h : ∀ t ∈ ts, t = [45, 108] => hTl (h _ (List.getElem_mem hlt))); have HB1 := Lib.hid (below_step hb.out hB1); have HS1 := Lib.hid hB1; clear hcl hB1 hTk hTl))
      have hge : w.heap.size ≤ w1.heap.size := HB1.out.size
      have HBk := Lib.hid (blk_new w1 (tokO a1 a2 a3 aw))
      have HB := Lib.hid (below_alloc HB1.out (tokO a1 a2 a3 aw))
      obtain ⟨M, hR, hI, hX, hS⟩ := hP.out
      have HX := Lib.hid hX
      have hlt0 : w.heap.size < w1.heap.size := Nat.lt_of_lt_of_le hS.lt HS1.out.size
      have HS := Lib.hid ((hS.below HS1.out).below (below_alloc (Below.refl _ w1) (tokO a1 a2 a3 aw)))
      have HI := Lib.hid hI
      have HR := Lib.hid hR
      clear hS hR hI hX hP hb HB1 HS1 HTok
      generalize w1.alloc (.cells #[.int .i64 a1, .int .i64 a2, .int .i64 a3, .bool aw] 34 (0, 0)) = W at *
      generalize w1.heap.size = g at *
      have hc0 : W.cell? ⟨g, 0, none⟩ = some (.int .i64 a1) := (blk_cell HBk.out 0).trans rfl
      have hc1 : W.cell? ⟨g, 1, none⟩ = some (.int .i64 a2) := (blk_cell HBk.out 1).trans rfl
      have hc2 : W.cell? ⟨g, 2, none⟩ = some (.int .i64 a3) := (blk_cell HBk.out 2).trans rfl
      have hc3 : W.cell? ⟨g, 3, none⟩ = some (.bool aw) := (blk_cell HBk.out 3).trans rfl
      cases is with
      | false =>
        go_wp2_with fail
        exact bodyPost_ret (v := .tuple #[.slice none 0 0, .bool false]) (by simp [results, Tryd.results10, go_sem]) rfl ⟨_, false, [], rfl, own_nil _ _ _ _, (fun h => by cases h), (fun _ h => absurd (HTl.out h).2.2 (by simp)), HB.out⟩
      | true =>
        by_cases h01 : a1 = 0 ∨ a1 = 1
        · have hE := tok_ev (HTk.out rfl) h01 n hn
          obtain ⟨M', hR', hM'⟩ := HR.out.snoc hlt hE
          have HR' := Lib.hid hR'
          have HM' := Lib.hid hM'
          clear hE hR' hM' HTk HR
          generalize M k = L at *
          rcases h01 with rfl | rfl
          · have hg0 : evJ true 0 L = L := rfl
            have hev : ((0 : Int) == 0) = true := by decide
            rw [hev] at HM'
            clear hev hc1 hc2 hc3
            go_wp2_with fail
            go_loopw [11] (fun vi wq => ∃ P : Nat, vi = .int .i64 (P : Int) ∧ 1 ≤ P ∧ P ≤ n + 1 ∧ Hid (Said w.heap.size n (evJ true (P - 1) L).f wq) ∧ Hid (Below w.heap.size w wq) ∧ Hid (wq.heap[g]? = some (tokO 0 a2 a3 aw))) (fun vi _ => n + 1 - (intOf vi).toNat)
            case atStart =>
              exact ⟨1, rfl, by omega, by omega, Lib.hid (by rw [Nat.sub_self, hg0]; exact HS.out), HB, HBk⟩
            case round =>
              obtain ⟨P, rfl, hP1, hPn, hS, hbq, hbk⟩ := hrel
              rename World => wq
              by_cases hle : P ≤ n
              · obtain ⟨sc, sf⟩ := hS.out.cell P hP1 hle
                have hc0 : wq.cell? ⟨g, 0, none⟩ = some (.int .i64 0) := (blk_cell hbk.out 0).trans rfl
                have hst := evJ_succ true (P - 1) L
                rw [show P - 1 + 1 = P by omega, show 1 + ((P - 1 : Nat) : Int) = (P : Int) by omega] at hst
                have z1 : decide (P ≤ n) = true := decide_eq_true hle
                have z2 : decide ((P : Int) ≤ (n : Int)) = true := decide_eq_true (by omega)
                have HST := Lib.hid hst
                clear hst
                cases hf : (evJ true (P - 1) L).f (P : Int) with
                | some b =>
                  have hst2 : evJ true P L = evJ true (P - 1) L := by
                    rw [HST.out]
                    split
                    · unfold sel1
                      rw [if_pos (by rw [hf]; rfl)]
                    · rfl
                  rw [hf] at sc
                  cases b
                  all_goals
                    simp only [wd] at sc
                    go_wp2_with fail
                    exact ⟨⟨P + 1, rfl, by omega, by omega, Lib.hid (by rw [Nat.add_sub_cancel, hst2]; exact hS.out), hbq, hbk⟩, by simp [intOf]; omega⟩
                | none =>
                  rw [hf] at sc
                  simp only [wd] at sc
                  by_cases hpar : P % 2 = 0
                  · have hst2 : evJ true P L = proc false (P : Int) (evJ true (P - 1) L) := by rw [HST.out, if_pos (by rw [decide_eq_true hpar]; decide)]; unfold sel1; rw [if_neg (by rw [hf]; simp)]
                    go_wp2_with fail
                    refine ⟨⟨P + 1, rfl, by omega, by omega, Lib.hid (by rw [Nat.add_sub_cancel, hst2]; exact hS.out.put P hle (some true) (fun q => rfl)), Lib.hid (below_set hbq.out (Nat.le_refl _)), Lib.hid (blk_far hbk.out (by show g ≠ w.heap.size; omega) _)⟩, by simp [intOf]; omega⟩
                  · have hst2 : evJ true P L = evJ true (P - 1) L := by rw [HST.out, if_neg (by rw [decide_eq_false hpar]; decide)]
                    go_wp2_with fail
                    exact ⟨⟨P + 1, rfl, by omega, by omega, Lib.hid (by rw [Nat.add_sub_cancel, hst2]; exact hS.out), hbq, hbk⟩, by simp [intOf]; omega⟩
              · obtain rfl : P = n + 1 := by omega
                have z1 : decide (n + 1 ≤ n) = false := decide_eq_false hle
                have z2 : decide (((n + 1 : Nat) : Int) ≤ (n : Int)) = false := decide_eq_false (by omega)
                rw [Nat.add_sub_cancel] at hS
                go_wp2_with fail
                exact ⟨⟨k + 1, rfl, by omega, Lib.hid ⟨M', HR'.out, by rw [HM'.out]; exact HI.out.evJ true n (Nat.le_refl _), (fun h => absurd (HTl.out h).1 (by decide)), by rw [HM'.out]; exact hS.out⟩, hbq⟩, by simp [intOf]; omega⟩
          · have hg0 : evJ false 0 L = L := rfl
            have hev : ((1 : Int) == 0) = false := by decide
            rw [hev] at HM'
            clear hev hc1 hc2 hc3
            go_wp2_with fail
            go_loopw [11] (fun vi wq => ∃ P : Nat, vi = .int .i64 (P : Int) ∧ 1 ≤ P ∧ P ≤ n + 1 ∧ Hid (Said w.heap.size n (evJ false (P - 1) L).f wq) ∧ Hid (Below w.heap.size w wq) ∧ Hid (wq.heap[g]? = some (tokO 1 a2 a3 aw))) (fun vi _ => n + 1 - (intOf vi).toNat)
            case atStart =>
              exact ⟨1, rfl, by omega, by omega, Lib.hid (by rw [Nat.sub_self, hg0]; exact HS.out), HB, HBk⟩
            case round =>
              obtain ⟨P, rfl, hP1, hPn, hS, hbq, hbk⟩ := hrel
              rename World => wq
              by_cases hle : P ≤ n
              · obtain ⟨sc, sf⟩ := hS.out.cell P hP1 hle
                have hc0 : wq.cell? ⟨g, 0, none⟩ = some (.int .i64 1) := (blk_cell hbk.out 0).trans rfl
                have hst := evJ_succ false (P - 1) L
                rw [show P - 1 + 1 = P by omega, show 1 + ((P - 1 : Nat) : Int) = (P : Int) by omega] at hst
                have z1 : decide (P ≤ n) = true := decide_eq_true hle
                have z2 : decide ((P : Int) ≤ (n : Int)) = true := decide_eq_true (by omega)
                have HST := Lib.hid hst
                clear hst
                cases hf : (evJ false (P - 1) L).f (P : Int) with
                | some b =>
                  have hst2 : evJ false P L = evJ false (P - 1) L := by
                    rw [HST.out]
                    split
                    · unfold sel1
                      rw [if_pos (by rw [hf]; rfl)]
                    · rfl
                  rw [hf] at sc
                  cases b
                  all_goals
                    simp only [wd] at sc
                    go_wp2_with fail
                    exact ⟨⟨P + 1, rfl, by omega, by omega, Lib.hid (by rw [Nat.add_sub_cancel, hst2]; exact hS.out), hbq, hbk⟩, by simp [intOf]; omega⟩
                | none =>
                  rw [hf] at sc
                  simp only [wd] at sc
                  by_cases hpar : P % 2 = 0
                  · have hpi : ((P : Int) % 2 == 0) = true := beq_iff_eq.2 (by omega)
                    have hst2 : evJ false P L = evJ false (P - 1) L := by rw [HST.out, if_neg (by rw [decide_eq_true hpar]; decide)]
                    go_wp2_with fail
                    exact ⟨⟨P + 1, rfl, by omega, by omega, Lib.hid (by rw [Nat.add_sub_cancel, hst2]; exact hS.out), hbq, hbk⟩, by simp [intOf]; omega⟩
                  · have hpi : ((P : Int) % 2 == 0) = false := beq_eq_false_iff_ne.2 (by omega)
                    have hst2 : evJ false P L = proc false (P : Int) (evJ false (P - 1) L) := by rw [HST.out, if_pos (by rw [decide_eq_false hpar]; decide)]; unfold sel1; rw [if_neg (by rw [hf]; simp)]
                    go_wp2_with fail
                    refine ⟨⟨P + 1, rfl, by omega, by omega, Lib.hid (by rw [Nat.add_sub_cancel, hst2]; exact hS.out.put P hle (some true) (fun q => rfl)), Lib.hid (below_set hbq.out (Nat.le_refl _)), Lib.hid (blk_far hbk.out (by show g ≠ w.heap.size; omega) _)⟩, by simp [intOf]; omega⟩
              · obtain rfl : P = n + 1 := by omega
                have z1 : decide (n + 1 ≤ n) = false := decide_eq_false hle
                have z2 : decide (((n + 1 : Nat) : Int) ≤ (n : Int)) = false := decide_eq_false (by omega)
                rw [Nat.add_sub_cancel] at hS
                go_wp2_with fail
                exact ⟨⟨k + 1, rfl, by omega, Lib.hid ⟨M', HR'.out, by rw [HM'.out]; exact HI.out.evJ false n (Nat.le_refl _), (fun h => absurd (HTl.out h).1 (by decide)), by rw [HM'.out]; exact hS.out⟩, hbq⟩, by simp [intOf]; omega⟩
        · have h0 : a1 ≠ 0 := fun h => h01 (.inl h)
          have h1 : a1 ≠ 1 := fun h => h01 (.inr h)
          have e0 : (a1 == 0) = false := beq_eq_false_iff_ne.2 h0
          have e1 : (a1 == 1) = false := beq_eq_false_iff_ne.2 h1
          obtain ⟨v, hBo, hEf⟩ := tok_effect (HTk.out rfl) h0 h1
          have HRe := Lib.hid (fun W => reach_calls hBo aw n hn W)
          have HNo := Lib.hid (norm_of hBo n hn)
          have HEf := Lib.hid hEf
          have HPQ := Lib.hid (fun h : ∀ t ∈ ts, t = [45, 108] => (⟨(HTl.out h).2.1, by rw [(HTl.out h).1]; rfl, by rw [(HTl.out h).1]; rfl⟩ : aw = false ∧ (reachOf a1 a2 a3 n).1 = 1 ∧ (reachOf a1 a2 a3 n).2 = (n : Int)))
          clear hBo hEf HTk h0 h1 h01
          generalize (reachOf a1 a2 a3 n).1 = p at *
          generalize (reachOf a1 a2 a3 n).2 = q at *
          go_upto_region 15 with (first | (go_at_call 15; (with_reducible refine (HRe.out _).mono ?_); rintro e W2 ⟨rfl, hB2⟩; have HB' := Lib.hid (below_step HB.out hB2); have HS' := Lib.hid (HS.out.below hB2); have HBk' := Lib.hid (blk_below HBk.out hB2); clear hc0 hc1 hc2 hc3 hB2 HB HS HBk; have HB := HB'; have HS := HS'; have HBk := HBk'; clear HB' HS' HBk'))
          by_cases hp : p < 1
          · have z1 : decide (p < 1) = true := decide_eq_true hp
            go_wp2_with fail
            exact bodyPost_ret (v := .tuple #[.slice none 0 0, .bool false]) (by simp [results, Tryd.results10, go_sem]) rfl ⟨_, false, [], rfl, own_nil _ _ _ _, (fun h => by cases h), (fun _ h => by have := (HPQ.out h).2.1; omega), HB.out⟩
          have z1 : decide (p < 1) = false := decide_eq_false hp
          by_cases hq : q < 1
          · have z2 : decide (q < 1) = true := decide_eq_true hq
            go_wp2_with fail
            exact bodyPost_ret (v := .tuple #[.slice none 0 0, .bool false]) (by simp [results, Tryd.results10, go_sem]) rfl ⟨_, false, [], rfl, own_nil _ _ _ _, (fun h => by cases h), (fun h1 h => by have := (HPQ.out h).2.2; omega), HB.out⟩
          have z2 : decide (q < 1) = false := decide_eq_false hq
          have hF := HEf.out n _ p (HNo.out (by omega) (by omega))
          obtain ⟨M', hR', hM'⟩ := HR.out.snoc hlt hF
          have HR' := Lib.hid hR'
          have HM' := Lib.hid hM'
          obtain ⟨m, hm⟩ : ∃ m, m = (min q n + 1 - p).toNat := ⟨_, rfl⟩
          have hmj : ∀ j : Nat, j < m ↔ p + j ≤ q ∧ p + j ≤ n := fun j => by omega
          rw [← hm] at HM'
          have HMJ := Lib.hid hmj
          have HXX : Hid (AllL n ts (k + 1) (procN aw m p (M k))) := Lib.hid (fun h pp => by
            obtain ⟨g1, g2, g3⟩ := HPQ.out h
            have hm2 : m = n := by omega
            rw [g1, g2, hm2, procN_all, HX.out h pp, if_neg (Nat.succ_ne_zero k)]
            by_cases hpp : 1 ≤ pp ∧ pp ≤ n
            · rw [if_pos hpp, if_pos hpp]
            · rw [if_neg hpp, if_neg hpp]
              split <;> rfl)
          have HII := Lib.hid (HI.out.procN aw m p (by omega) (fun j hj => (hmj j).1 hj |>.2))
          clear hR' hM' hF HNo HEf HRe HR hm hmj HI HX HPQ HTl
          generalize M k = L at *
          obtain ⟨p', rfl⟩ : ∃ p' : Nat, p = (p' : Int) := ⟨p.toNat, by omega⟩
          have hp1 : 1 ≤ p' := by omega
          have hgs : g ≠ w.heap.size := by omega
          have hgs2 : w.heap.size ≠ g := by omega
          go_wp2_with fail
          go_loopw [14] (fun vi wq => ∃ j : Nat, vi = .int .i64 ((p' + j : Nat) : Int) ∧ j ≤ m ∧ Hid (Said w.heap.size n (procN aw j p' L).f wq) ∧ Hid (Below w.heap.size w wq) ∧ Hid (wq.heap[g]? = some (tokO a1 a2 a3 aw))) (fun vi _ => m - ((intOf vi).toNat - p'))
          case atStart =>
            exact ⟨0, rfl, by omega, HS, HB, HBk⟩
          case round =>
            obtain ⟨j, rfl, hjm, hS, hbq, hbk⟩ := hrel
            rename World => wq
            by_cases hj : j < m
            · obtain ⟨y1, y2⟩ := (HMJ.out j).1 hj
              have z3 : decide (((p' + j : Nat) : Int) ≤ q) = true := decide_eq_true (by omega)
              have z4 : decide (((p' + j : Nat) : Int) ≤ (n : Int)) = true := decide_eq_true (by omega)
              have z5 : decide (p' + j ≤ n) = true := decide_eq_true (by omega)
              have hc3 : wq.cell? ⟨g, 3, none⟩ = some (.bool aw) := (blk_cell hbk.out 3).trans rfl
              obtain ⟨sc, sf⟩ := hS.out.cell (p' + j) (by omega) (by omega)
              cases aw with
              | false =>
                go_wp2_with fail
                have hput := hS.out.put (g := (procN false (j + 1) p' L).f) (p' + j) (by omega) (some true) (fun q => by show (if q = (p' : Int) + (j : Int) then some (!false) else (procN false j p' L).f q) = _; rw [Int.natCast_add]; rfl)
                exact ⟨⟨j + 1, congrArg (Value.int IntKind.i64) (by omega), by omega, Lib.hid hput, Lib.hid (below_set hbq.out (Nat.le_refl _)), Lib.hid (blk_far hbk.out (by show g ≠ w.heap.size; omega) _)⟩, by simp [intOf]; omega⟩
              | true =>
                go_wp2_with fail
                have hput := (hS.out.put (p' + j) (by omega) (some true) (fun q => rfl)).put (g := (procN true (j + 1) p' L).f) (p' + j) (by omega) (some false) (fun q => by
                  show (if q = (p' : Int) + (j : Int) then some (!true) else (procN true j p' L).f q) = _
                  rw [Int.natCast_add]
                  by_cases hqq : q = (p' : Int) + (j : Int)
                  · rw [if_pos hqq, if_pos hqq]; rfl
                  · rw [if_neg hqq, if_neg hqq, if_neg hqq])
                exact ⟨⟨j + 1, congrArg (Value.int IntKind.i64) (by omega), by omega, Lib.hid hput, Lib.hid (below_set (below_set hbq.out (Nat.le_refl _)) (Nat.le_refl _)), Lib.hid (blk_far (blk_far hbk.out (by show g ≠ w.heap.size; omega) _) (by show g ≠ w.heap.size; omega) _)⟩, by simp [intOf]; omega⟩
            · obtain rfl : j = m := by omega
              have hz : ¬ ((p' : Int) + (j : Int) ≤ q ∧ (p' : Int) + (j : Int) ≤ n) := fun h => hj ((HMJ.out j).2 h)
              by_cases y1 : ((p' + j : Nat) : Int) ≤ q
              · have z3 : decide (((p' + j : Nat) : Int) ≤ q) = true := decide_eq_true y1
                have y2 : ¬ (p' + j ≤ n) := fun h => hz ⟨by omega, by omega⟩
                have z4 : decide (((p' + j : Nat) : Int) ≤ (n : Int)) = false := decide_eq_false (by omega)
                have z5 : decide (p' + j ≤ n) = false := decide_eq_false y2
                go_wp2_with fail
                exact ⟨⟨k + 1, rfl, by omega, Lib.hid ⟨M', HR'.out, by rw [HM'.out]; exact HII.out, by rw [HM'.out]; exact HXX.out, by rw [HM'.out]; exact hS.out⟩, hbq⟩, by simp [intOf]; omega⟩
              · have z3 : decide (((p' + j : Nat) : Int) ≤ q) = false := decide_eq_false y1
                go_wp2_with fail
                exact ⟨⟨k + 1, rfl, by omega, Lib.hid ⟨M', HR'.out, by rw [HM'.out]; exact HII.out, by rw [HM'.out]; exact HXX.out, by rw [HM'.out]; exact hS.out⟩, hbq⟩, by simp [intOf]; omega⟩
    · obtain rfl : k = ts.length := by omega
      rw [List.take_length] at hP
      obtain ⟨M, hR, hI, hX, hS⟩ := hP.out
      have HR := Lib.hid hR
      have HI := Lib.hid hI
      have HX := Lib.hid hX
      have HS := Lib.hid hS
      have hge : ¬ ((ts.length : Int) < (ts.length : Int)) := by omega
      have hls := hS.lt
      clear hP hR hI hX hS hT hlen
      obtain ⟨f, hf⟩ : ∃ f, f = (M ts.length).f := ⟨_, rfl⟩
      rw [← hf] at HS
      have HF := Lib.hid hf
      clear hf
      go_wp2_with fail
      rename World => wf
      go_loopw [15, 16] (fun o vi wq => ∃ P : Nat, vi = .int .i64 (P : Int) ∧ 1 ≤ P ∧ P ≤ n + 1 ∧ Hid (wq.ownsRow (w.heap.size + 1) 3 1 o (selL (P - 1) f).length (nums .i64 (selL (P - 1) f))) ∧ Hid (Said w.heap.size n f wq) ∧ Hid (Below (w.heap.size + 1) wf wq)) (fun _ vi _ => n + 1 - (intOf vi).toNat)
      case atStart =>
        exact ⟨1, rfl, by omega, by omega, Lib.hid (own_nil _ _ _ _), HS, Lib.hid (Below.refl _ _)⟩
      case round =>
        obtain ⟨P, rfl, hP1, hPn, ho, hS, hbq⟩ := hrel
        rename World => wq
        have hsz := hbq.out.size
        by_cases hle : P ≤ n
        · obtain ⟨sc, sf⟩ := hS.out.cell P hP1 hle
          have z1 : decide (P ≤ n) = true := decide_eq_true hle
          have z2 : decide ((P : Int) ≤ (n : Int)) = true := decide_eq_true (by omega)
          have hll := selL_length (P - 1) f
          have hst := selL_succ (P - 1) f
          rw [show P - 1 + 1 = P by omega, show ((P - 1 : Nat) : Int) + 1 = (P : Int) by omega] at hst
          have HST := Lib.hid hst
          clear hst
          cases hv : f (P : Int) with
          | none =>
            have hst2 : selL P f = selL (P - 1) f := by rw [HST.out, if_neg (by rw [hv]; simp), List.append_nil]
            rw [hv] at sc
            simp only [wd] at sc
            go_wp2_with fail
            exact ⟨⟨P + 1, rfl, by omega, by omega, by rw [Nat.add_sub_cancel, hst2]; exact ho, hS, hbq⟩, by simp [intOf]; omega⟩
          | some b =>
            rw [hv] at sc
            cases b with
            | false =>
              have hst2 : selL P f = selL (P - 1) f := by rw [HST.out, if_neg (by rw [hv]; simp), List.append_nil]
              simp only [wd] at sc
              go_wp2_with fail
              exact ⟨⟨P + 1, rfl, by omega, by omega, by rw [Nat.add_sub_cancel, hst2]; exact ho, hS, hbq⟩, by simp [intOf]; omega⟩
            | true =>
              have hst2 : selL P f = selL (P - 1) f ++ [(P : Int)] := by rw [HST.out, if_pos hv]
              simp only [wd] at sc
              generalize selL (P - 1) f = X at *
              go_wp2_with (at_builtin; refine print_append_num (w.heap.size + 1) rfl (.tmp 105) (.tmp 107) 24 3 .i64 8 rfl Tryd.underlying24 info_int (by decide) _ X (P : Int) rfl rfl ho.out hbq.out (by omega) (by omega) ?_; intro v1 w1 ho3 hb3 hg _
                           have HO3 := Lib.hid ho3
                           have HB3 := Lib.hid hb3
                           have HS3 := Lib.hid (hS.out.keep (hg.block _ hS.out.lt (row_ne_low ho.out (Nat.lt_succ_self _))))
                           clear ho3 hb3 hg)
              exact ⟨⟨P + 1, rfl, by omega, by omega, by rw [Nat.add_sub_cancel, hst2]; exact HO3, HS3, HB3⟩, by simp [intOf]; omega⟩
        · obtain rfl : P = n + 1 := by omega
          have z1 : decide (n + 1 ≤ n) = false := decide_eq_false hle
          have z2 : decide (((n + 1 : Nat) : Int) ≤ (n : Int)) = false := decide_eq_false (by omega)
          rw [Nat.add_sub_cancel] at ho
          go_wp2_with fail
          exact bodyPost_ret (v := .tuple #[_, .bool true]) (by simp [results, Tryd.results10, go_sem]) rfl ⟨_, true, _, rfl, own_weaken ho.out (Nat.le_succ _), fun _ => ⟨M, HR.out, HI.out, HX.out, by rw [HF.out]⟩, (fun _ _ => rfl), hb.out.trans (hbq.out.mono (Nat.le_succ _))⟩
end Go.Proofs.YthfihamhkhnckaaDoor.Sel
