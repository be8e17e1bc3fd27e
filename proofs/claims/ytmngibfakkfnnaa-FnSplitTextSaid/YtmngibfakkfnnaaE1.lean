/-
The law FnSplitText, the plain part: texts of parts with ends between; the ends made one. Conditions: numbers from 0 to 255; parts without line ends and reverse solidi.
-/
import Derived.Test.YtmngibfakkfnnaaPFnSplitTextx1
namespace Go.Proofs.Ytmngibfakkfnnaa
open Go.RowKit Go.Proofs.Ytmngibfakkfnnaa.PFnSplitText Go.Proofs.YtmngibfakkfnnaaW.PrintWords Go.Proofs.YtmngibfakkfnnaaW.PrintLast

/-- Numbers that are bytes of the law's parts. -/
def plain (L : List Int) : Prop := ∀ x ∈ L, 32 ≤ x ∧ x ≤ 126 ∧ x ≠ 92
/-- Bytes without a reverse solidus. -/
def no92 (L : List Int) : Prop := ∀ x ∈ L, 0 ≤ x ∧ x < 256 ∧ x ≠ 92
def bytes (L : List Int) : Prop := ∀ x ∈ L, 0 ≤ x ∧ x < 256
def sep (b : Bool) : List Int := if b then [10] else [92, 110]
def textOf : List (List Int) → List Bool → List Int
  | [], _ => []
  | [p], _ => p
  | p :: q :: ps, es => p ++ sep (es.headD true) ++ textOf (q :: ps) es.tail
def joined : List (List Int) → List Int
  | [] => []
  | [p] => p
  | p :: q :: ps => p ++ [10] ++ joined (q :: ps)

theorem extract_str (L : List Int) (i j : Nat) : (strOfNums L).extract i j = strOfNums ((L.take j).drop i) := by
  apply ByteArray.ext
  simp [strOfNums, List.drop_take]
theorem toList_str (L : List Int) : (strOfNums L).toList = L.map fun n => UInt8.ofNat n.toNat := by
  rw [ByteArray.toList_eq]; rfl
theorem bytesOf_str {L : List Int} (h : bytes L) : bytesOf (strOfNums L) = L := by
  unfold bytesOf strOfNums
  simp only [List.map_map]
  conv => rhs; rw [← List.map_id L]
  refine List.map_congr_left fun x hx => ?_
  obtain ⟨h0, h1⟩ := h x hx
  simp only [Function.comp, UInt8.toNat_ofNat', id]
  omega
theorem byte_eq {x : Int} {n : Nat} (h0 : 0 ≤ x) (h1 : x < 256) (hn : n < 256) : UInt8.ofNat x.toNat = UInt8.ofNat n ↔ x = n := by
  constructor
  · intro h
    have := congrArg UInt8.toNat h
    rw [UInt8.toNat_ofNat', UInt8.toNat_ofNat'] at this
    omega
  · rintro rfl; simp
def old : ByteArray := ⟨#[92, 110]⟩
def new : ByteArray := ⟨#[10]⟩
theorem old_list : old.toList = [92, 110] := ByteArray.toList_mk [92, 110]
theorem old_size : old.size = 2 := rfl
theorem new_size : new.size = 1 := rfl
theorem new_bytes : bytesOf new = [10] := by simp [bytesOf, new]

theorem index_hit (b r : List Int) (hb : no92 b) (hr : b.length + r.length ≤ 10000) (d : Nat) : ∀ i k, i + d = b.length → d < k →
    model_zzIndex.l0 k (strOfNums (b ++ 92 :: 110 :: r)) old (i : Int) = some (b.length : Int) := by
  have hsz : (strOfNums (b ++ 92 :: 110 :: r)).size = b.length + (r.length + 2) := by rw [strOfNums_size]; simp
  induction d with
  | zero =>
    intro i k hi hk
    obtain ⟨k, rfl⟩ : ∃ m, k = m + 1 := ⟨k - 1, by omega⟩
    have w : wrap64 ((i : Int) + (old.size : Int)) = (i : Int) + 2 := by rw [old_size]; unfold wrap64; omega
    simp only [model_zzIndex.l0]
    rw [w, hsz, if_pos (by omega), if_pos (by omega), if_pos (by omega), show ((i : Int) + 2).toNat = i + 2 by omega, Int.toNat_natCast, extract_str, toList_str, old_list]
    have : List.drop i (List.take (i + 2) (b ++ 92 :: 110 :: r)) = [92, 110] := by
      obtain rfl : i = b.length := by omega
      rw [List.take_append, List.take_of_length_le (by omega), Nat.add_sub_cancel_left, List.drop_left]; rfl
    rw [this, if_pos (by decide)]
    congr 1; omega
  | succ d ih =>
    intro i k hi hk
    obtain ⟨k, rfl⟩ : ∃ m, k = m + 1 := ⟨k - 1, by omega⟩
    have w : wrap64 ((i : Int) + (old.size : Int)) = (i : Int) + 2 := by rw [old_size]; unfold wrap64; omega
    have w' : wrap64 ((i : Int) + 1) = ((i + 1 : Nat) : Int) := by unfold wrap64; omega
    have hlt : i < b.length := by omega
    simp only [model_zzIndex.l0]
    rw [w, hsz, if_pos (by omega), if_pos (by omega), if_pos (by omega), show ((i : Int) + 2).toNat = i + 2 by omega, Int.toNat_natCast, extract_str, toList_str, old_list, w']
    rw [if_neg, ih (i + 1) k (by omega) (by omega)]
    intro h
    have h0 := congrArg List.head? h
    have e : (List.drop i (List.take (i + 2) (b ++ 92 :: 110 :: r))).head? = some b[i] := by
      rw [List.head?_drop, List.getElem?_take_of_lt (by omega), List.getElem?_append_left hlt, List.getElem?_eq_getElem hlt]
    rw [List.head?_map, e] at h0
    obtain ⟨x0, x1, x2⟩ := hb b[i] (List.getElem_mem hlt)
    simp only [Option.map_some, List.head?_cons, Option.some.injEq] at h0
    exact x2 ((byte_eq x0 x1 (n := 92) (by decide)).1 h0)

theorem index_none (b : List Int) (hb : no92 b) (hr : b.length ≤ 10000) (d : Nat) : ∀ i k, i + d = b.length → d < k →
    model_zzIndex.l0 k (strOfNums b) old (i : Int) = some (-1) := by
  have hsz : (strOfNums b).size = b.length := strOfNums_size b
  induction d with
  | zero =>
    intro i k hi hk
    obtain ⟨k, rfl⟩ : ∃ m, k = m + 1 := ⟨k - 1, by omega⟩
    have w : wrap64 ((i : Int) + (old.size : Int)) = (i : Int) + 2 := by rw [old_size]; unfold wrap64; omega
    simp only [model_zzIndex.l0]
    rw [w, hsz, if_neg (by omega)]
  | succ d ih =>
    intro i k hi hk
    obtain ⟨k, rfl⟩ : ∃ m, k = m + 1 := ⟨k - 1, by omega⟩
    have w : wrap64 ((i : Int) + (old.size : Int)) = (i : Int) + 2 := by rw [old_size]; unfold wrap64; omega
    have w' : wrap64 ((i : Int) + 1) = ((i + 1 : Nat) : Int) := by unfold wrap64; omega
    have hlt : i < b.length := by omega
    simp only [model_zzIndex.l0]
    rw [w, hsz]
    by_cases hl : (i : Int) + 2 ≤ (b.length : Int)
    · rw [if_pos hl, if_pos (by omega), if_pos (by omega), show ((i : Int) + 2).toNat = i + 2 by omega, Int.toNat_natCast, extract_str, toList_str, old_list, w']
      rw [if_neg, ih (i + 1) k (by omega) (by omega)]
      intro h
      have h0 := congrArg List.head? h
      have e : (List.drop i (List.take (i + 2) b)).head? = some b[i] := by
        rw [List.head?_drop, List.getElem?_take_of_lt (by omega), List.getElem?_eq_getElem hlt]
      rw [List.head?_map, e] at h0
      obtain ⟨x0, x1, x2⟩ := hb b[i] (List.getElem_mem hlt)
      simp only [Option.map_some, List.head?_cons, Option.some.injEq] at h0
      exact x2 ((byte_eq x0 x1 (n := 92) (by decide)).1 h0)
    · rw [if_neg hl]

theorem no92_append {a b : List Int} (ha : no92 a) (hb : no92 b) : no92 (a ++ b) := fun x hx => by
  rcases List.mem_append.1 hx with h | h
  · exact ha x h
  · exact hb x h
theorem no92_plain {a : List Int} (ha : plain a) : no92 a := fun x hx => by
  obtain ⟨h0, h1, h2⟩ := ha x hx
  exact ⟨by omega, by omega, h2⟩
theorem no92_ten : no92 [10] := fun x hx => by simp at hx; subst hx; decide
theorem bytes_no92 {a : List Int} (ha : no92 a) : bytes a := fun x hx => ⟨(ha x hx).1, (ha x hx).2.1⟩
theorem bytes_append {a b : List Int} (ha : bytes a) (hb : bytes b) : bytes (a ++ b) := fun x hx => by
  rcases List.mem_append.1 hx with h | h
  · exact ha x h
  · exact hb x h

theorem replace_go : ∀ (ps : List (List Int)) (es : List Bool) (a out : List Int) (k : Nat), ps ≠ [] → (∀ p ∈ ps, plain p) → no92 a → bytes out → out.length + a.length + (textOf ps es).length ≤ 10000 → ps.length + a.length + (textOf ps es).length + 3 ≤ k →
    model_zzReplaceAll.l0 k (strOfNums (a ++ textOf ps es)) old new out = some (strOfNums (out ++ (a ++ joined ps)))
  | [], _, _, _, _, h, _, _, _, _, _ => absurd rfl h
  | [p], es, a, out, k, _, hp, ha, ho, hs, hk => by
    obtain ⟨k, rfl⟩ : ∃ m, k = m + 1 := ⟨k - 1, by omega⟩
    have hap : no92 (a ++ p) := no92_append ha (no92_plain (hp p (by simp)))
    simp only [textOf] at hs hk ⊢
    simp only [joined, model_zzReplaceAll.l0]
    have hi : model_zzIndex.f k (strOfNums (a ++ p)) old = some (-1) := by
      unfold model_zzIndex.f
      have := index_none (a ++ p) hap (by simp; omega) (a ++ p).length 0 k (by omega) (by simp; omega)
      simpa using this
    rw [hi, Option.bind_some, if_pos (by omega), if_pos (by rw [strOfNums_size]; simp; omega), bytesOf_str (bytes_no92 hap)]
  | p :: q :: ps, es, a, out, k, _, hp, ha, ho, hs, hk => by
    have hpp := no92_plain (hp p (by simp))
    have hps : ∀ r ∈ q :: ps, plain r := fun r hr => hp r (List.mem_cons_of_mem _ hr)
    simp only [textOf] at hs hk ⊢
    simp only [joined]
    cases he : es.headD true with
    | true =>
      rw [he] at hs hk
      simp only [sep, if_true, List.length_append, List.length_cons, List.length_nil] at hs hk ⊢
      have := replace_go (q :: ps) es.tail (a ++ p ++ [10]) out k (by simp) hps (no92_append (no92_append ha hpp) no92_ten) ho (by simp only [List.length_append, List.length_cons, List.length_nil]; omega) (by simp only [List.length_append, List.length_cons, List.length_nil]; omega)
      simpa only [List.append_assoc] using this
    | false =>
      rw [he] at hs hk
      simp only [sep, Bool.false_eq_true, if_false, List.length_append, List.length_cons, List.length_nil] at hs hk ⊢
      obtain ⟨k, rfl⟩ : ∃ m, k = m + 1 := ⟨k - 1, by omega⟩
      have hap : no92 (a ++ p) := no92_append ha hpp
      generalize hT : textOf (q :: ps) es.tail = T at hs hk
      have e : a ++ (p ++ [92, 110] ++ T) = (a ++ p) ++ 92 :: 110 :: T := by simp
      have hi : model_zzIndex.f k (strOfNums ((a ++ p) ++ 92 :: 110 :: T)) old = some ((a ++ p).length : Int) := by
        unfold model_zzIndex.f
        have := index_hit (a ++ p) T hap (by simp; omega) (a ++ p).length 0 k (by omega) (by simp; omega)
        simpa using this
      have hsz : (strOfNums ((a ++ p) ++ 92 :: 110 :: T)).size = (a ++ p).length + (T.length + 2) := by rw [strOfNums_size]; simp only [List.length_append, List.length_cons]
      have hx : (strOfNums ((a ++ p) ++ 92 :: 110 :: T)).extract 0 (a ++ p).length = strOfNums (a ++ p) := by rw [extract_str, List.take_left, List.drop_zero]
      have hy : (strOfNums ((a ++ p) ++ 92 :: 110 :: T)).extract ((a ++ p).length + 2) ((a ++ p).length + (T.length + 2)) = strOfNums T := by
        rw [extract_str, List.take_of_length_le (by simp; omega), ← List.drop_drop, List.drop_left]; rfl
      have w : wrap64 (((a ++ p).length : Int) + (old.size : Int)) = (((a ++ p).length + 2 : Nat) : Int) := by rw [old_size]; unfold wrap64; simp only [List.length_append]; omega
      have ih := replace_go (q :: ps) es.tail [] (out ++ (a ++ p) ++ [10]) k (by simp) hps (fun x hx => by simp at hx) (bytes_append (bytes_append ho (bytes_no92 hap)) (bytes_no92 no92_ten)) (by rw [hT]; simp only [List.length_append, List.length_cons, List.length_nil]; omega) (by rw [hT]; simp only [List.length_cons, List.length_nil] at hk ⊢; omega)
      rw [hT, List.nil_append, List.nil_append] at ih
      rw [e]
      simp only [model_zzReplaceAll.l0]
      rw [hi, Option.bind_some, if_neg (by omega), if_pos (by omega), if_pos (by rw [hsz]; omega), Int.toNat_natCast, hx, if_pos (by rw [strOfNums_size]; simp only [List.length_append]; omega), Option.bind_some, bytesOf_str (bytes_no92 hap),
        if_pos (by rw [new_size]; simp only [List.length_append]; omega), w, if_pos (by omega), if_pos (by rw [hsz]; omega), Int.toNat_natCast, hsz, hy, new_bytes, ih]
      simp
theorem replace_f (ps : List (List Int)) (es : List Bool) (h0 : ps ≠ []) (h : ∀ p ∈ ps, plain p) (hs : (textOf ps es).length ≤ 10000) :
    model_zzReplaceAll.f (ps.length + (textOf ps es).length + 3) (strOfNums (textOf ps es)) old new = some (strOfNums (joined ps)) := by
  unfold model_zzReplaceAll.f
  have := replace_go ps es [] [] (ps.length + (textOf ps es).length + 3) h0 h (fun x hx => by simp at hx) (fun x hx => by simp at hx) (by simpa using hs) (by simp)
  simpa using this
end Go.Proofs.Ytmngibfakkfnnaa
