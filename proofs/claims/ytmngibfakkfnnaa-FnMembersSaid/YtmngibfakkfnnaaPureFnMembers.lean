/-
The law FnMembers, the plain part: what the program's three functions answer over lists is what the law's own loops reckon. Conditions: lists of sizes that lie in memory.
-/
import Derived.Test.YtmngibfakkfnnaaPFnMembersx2
namespace Go.Proofs.Ytmngibfakkfnnaa.Pure
open Go.RowKit Go.Proofs.Ytmngibfakkfnnaa.PFnMembers Go.Proofs.YtmngibfakkfnnaaW.PrintWords Go.Proofs.YtmngibfakkfnnaaW.PrintLast

theorem wrap_nat {i n : Nat} (h : i < n) (hn : n ≤ 140737488351232) : wrap64 ((i : Int) + 1) = ((i + 1 : Nat) : Int) := by
  unfold wrap64
  omega
theorem rdOf_at {l : List ByteArray} {i : Nat} (h : i < l.length) : rdOf ByteArray.empty l (i : Int) = l[i] := by
  simp [rdOf, h]
theorem rd_at {l : List Int} {i : Nat} (h : i < l.length) : rd l (i : Int) = l[i] := by
  simp [rd, h]

theorem fits (l : List ByteArray) (hn : l.length ≤ 140737488351232) (d : Nat) : ∀ i, i + d = l.length → ∃ b, ∀ k, d < k → laws_zzFits1.l0 k l (l.length : Int) (i : Int) = some b := by
  induction d with
  | zero =>
    intro i hi
    refine ⟨true, fun k hk => ?_⟩
    obtain ⟨k, rfl⟩ : ∃ m, k = m + 1 := ⟨k - 1, by omega⟩
    simp only [laws_zzFits1.l0]
    rw [if_neg (by omega)]
  | succ d ih =>
    intro i hi
    obtain ⟨b, hb⟩ := ih (i + 1) (by omega)
    by_cases hs : ((rdOf ByteArray.empty l (i : Int)).size : Int) > 2147483647
    · refine ⟨false, fun k hk => ?_⟩
      obtain ⟨k, rfl⟩ : ∃ m, k = m + 1 := ⟨k - 1, by omega⟩
      simp only [laws_zzFits1.l0]
      rw [if_pos (by omega), if_pos (by omega), if_pos (by omega), if_pos hs]
    · refine ⟨b, fun k hk => ?_⟩
      obtain ⟨k, rfl⟩ : ∃ m, k = m + 1 := ⟨k - 1, by omega⟩
      simp only [laws_zzFits1.l0]
      rw [if_pos (by omega), if_pos (by omega), if_pos (by omega), if_neg hs, wrap_nat (n := l.length) (by omega) hn]
      exact hb k (by omega)
theorem fits_f (l : List ByteArray) (hn : l.length ≤ 140737488351232) : ∃ b, ∀ k, l.length < k → laws_zzFits1.f k l = some b := by
  unfold laws_zzFits1.f
  by_cases h : (l.length : Int) > 2147483647
  · exact ⟨false, fun k _ => by rw [if_pos h]⟩
  · obtain ⟨b, hb⟩ := fits l hn l.length 0 (by omega)
    exact ⟨b, fun k hk => by rw [if_neg h]; exact hb k hk⟩

/-- Is the text among these? -/
def isIn (s : ByteArray) (l : List ByteArray) : Bool := l.any fun x => x.toList == s.toList
theorem isIn_drop {s : ByteArray} {l : List ByteArray} {i : Nat} (h : i < l.length) : isIn s (l.drop i) = ((l[i].toList == s.toList) || isIn s (l.drop (i + 1))) := by
  rw [List.drop_eq_getElem_cons h]; rfl
theorem member (s : ByteArray) (l : List ByteArray) (hn : l.length ≤ 140737488351232) (d : Nat) : ∀ i, i + d = l.length → ∀ k, d < k → types_MemberOf.l0 k s l (l.length : Int) (i : Int) = some (isIn s (l.drop i)) := by
  induction d with
  | zero =>
    intro i hi k hk
    obtain ⟨k, rfl⟩ : ∃ m, k = m + 1 := ⟨k - 1, by omega⟩
    simp only [types_MemberOf.l0]
    rw [if_neg (by omega), List.drop_eq_nil_of_le (by omega)]; rfl
  | succ d ih =>
    intro i hi k hk
    obtain ⟨k, rfl⟩ : ∃ m, k = m + 1 := ⟨k - 1, by omega⟩
    have hl : i < l.length := by omega
    simp only [types_MemberOf.l0]
    rw [if_pos (by omega), if_pos (by omega), if_pos (by omega), wrap_nat hl hn, rdOf_at hl, isIn_drop hl]
    by_cases he : s.toList = l[i].toList
    · rw [if_pos he, he]; simp
    · rw [if_neg he, ih (i + 1) (by omega) k (by omega)]
      have : (l[i].toList == s.toList) = false := by simpa using fun e => he e.symm
      rw [this, Bool.false_or]
theorem member_f (s : ByteArray) (l : List ByteArray) (hn : l.length ≤ 140737488351232) (k : Nat) (hk : l.length < k) : impl_Member.f k s l = some (isIn s l) := by
  unfold impl_Member.f types_MemberOf.f
  rw [show (0 : Int) = ((0 : Nat) : Int) from rfl, member s l hn l.length 0 (by omega) k hk]; rfl

/-- Is the number among these? -/
def isOf (n : Int) (l : List Int) : Bool := l.any fun x => x == n
theorem isOf_drop {s : Int} {l : List Int} {i : Nat} (h : i < l.length) : isOf s (l.drop i) = ((l[i] == s) || isOf s (l.drop (i + 1))) := by
  rw [List.drop_eq_getElem_cons h]; rfl
theorem intMember (s : Int) (l : List Int) (hn : l.length ≤ 140737488351232) (d : Nat) : ∀ i, i + d = l.length → ∀ k, d < k → types_IntMemberOf.l0 k s l (l.length : Int) (i : Int) = some (isOf s (l.drop i)) := by
  induction d with
  | zero =>
    intro i hi k hk
    obtain ⟨k, rfl⟩ : ∃ m, k = m + 1 := ⟨k - 1, by omega⟩
    simp only [types_IntMemberOf.l0]
    rw [if_neg (by omega), List.drop_eq_nil_of_le (by omega)]; rfl
  | succ d ih =>
    intro i hi k hk
    obtain ⟨k, rfl⟩ : ∃ m, k = m + 1 := ⟨k - 1, by omega⟩
    have hl : i < l.length := by omega
    simp only [types_IntMemberOf.l0]
    rw [if_pos (by omega), if_pos (by omega), if_pos (by omega), wrap_nat hl hn, rd_at hl, isOf_drop hl]
    by_cases he : s = l[i]
    · rw [if_pos he, he]; simp
    · rw [if_neg he, ih (i + 1) (by omega) k (by omega)]
      have : (l[i] == s) = false := by simpa using fun e => he e.symm
      rw [this, Bool.false_or]
theorem intMember_f (s : Int) (l : List Int) (hn : l.length ≤ 140737488351232) (k : Nat) (hk : l.length < k) : impl_IntMember.f k s l = some (isOf s l) := by
  unfold impl_IntMember.f types_IntMemberOf.f
  have := intMember s l hn l.length 0 (by omega) k hk
  rw [show ((0 : Nat) : Int) = 0 from rfl] at this
  rw [this]; rfl

/-- Are the texts alike, place by place? -/
def alike (l m : List ByteArray) : Bool := (l.zip m).all fun p => p.1.toList == p.2.toList
theorem alike_drop {l m : List ByteArray} {i : Nat} (h : i < l.length) (h' : i < m.length) : alike (l.drop i) (m.drop i) = ((l[i].toList == m[i].toList) && alike (l.drop (i + 1)) (m.drop (i + 1))) := by
  rw [List.drop_eq_getElem_cons h, List.drop_eq_getElem_cons h']; rfl
theorem equals (l m : List ByteArray) (hlm : l.length = m.length) (hn : l.length ≤ 140737488351232) (d : Nat) : ∀ i, i + d = l.length → ∀ k, d < k → types_EqualSlices.l0 k m l (l.length : Int) (i : Int) = some (alike (l.drop i) (m.drop i)) := by
  induction d with
  | zero =>
    intro i hi k hk
    obtain ⟨k, rfl⟩ : ∃ m, k = m + 1 := ⟨k - 1, by omega⟩
    simp only [types_EqualSlices.l0]
    rw [if_neg (by omega), List.drop_eq_nil_of_le (by omega)]; rfl
  | succ d ih =>
    intro i hi k hk
    obtain ⟨k, rfl⟩ : ∃ m, k = m + 1 := ⟨k - 1, by omega⟩
    have hl : i < l.length := by omega
    have hm : i < m.length := by omega
    simp only [types_EqualSlices.l0]
    rw [if_pos (by omega), if_pos (by omega), if_pos (by omega), if_pos (by omega), wrap_nat hl hn, rdOf_at hl, rdOf_at hm, alike_drop hl hm]
    by_cases he : l[i].toList = m[i].toList
    · rw [if_pos he, ih (i + 1) (by omega) k (by omega)]; simp [he]
    · rw [if_neg he]; simp [he]
theorem equals_f (l m : List ByteArray) (hn : l.length ≤ 140737488351232) (k : Nat) (hk : l.length < k) : impl_EqualSlices.f k l m = some (((l.length : Int) == (m.length : Int)) && alike l m) := by
  unfold impl_EqualSlices.f types_EqualSlices.f
  by_cases h : (l.length : Int) = (m.length : Int)
  · have := equals l m (by omega) hn l.length 0 (by omega) k hk
    rw [show ((0 : Nat) : Int) = 0 from rfl] at this
    rw [if_pos h, this]; simp [h]
  · rw [if_neg h]; simp [h]

/-- The law's second loop. -/
theorem loop1 (s : ByteArray) (l m : List ByteArray) (n : Int) (z : List Int) (hz : z.length ≤ 140737488351232) (a b : Bool) (d : Nat) : ∀ i, i + d = z.length → ∀ c k, max l.length z.length + 2 ≤ k →
    laws_FnMembers.l1 (d + 1 + k) s l m n z a b c z (z.length : Int) (i : Int) = laws_FnMembers.l1 (k + 1) s l m n z a b (c || isOf n (z.drop i)) z (z.length : Int) (z.length : Int) := by
  induction d with
  | zero =>
    intro i hi c k _
    obtain rfl : i = z.length := by omega
    rw [List.drop_eq_nil_of_le (by omega), show isOf n [] = false from rfl, Bool.or_false, Nat.zero_add, Nat.add_comm]
  | succ d ih =>
    intro i hi c k hk
    have hl : i < z.length := by omega
    rw [show d + 1 + 1 + k = (d + 1 + k) + 1 by omega]
    conv => lhs; simp only [laws_FnMembers.l1]
    rw [if_pos (by omega), if_pos (by omega), if_pos (by omega), wrap_nat hl hz, rd_at hl, ih (i + 1) (by omega) _ k hk, ih (i + 1) (by omega) _ k hk, isOf_drop hl]
    cases c
    · rw [if_neg (by simp)]; simp
    · rw [if_pos rfl]; simp
theorem tail1 (s : ByteArray) (l m : List ByteArray) (n : Int) (z : List Int) (hl : l.length ≤ 140737488351232) (hz : z.length ≤ 140737488351232) (k : Nat) (hk : max l.length z.length + 2 ≤ k) :
    laws_FnMembers.l1 (k + 1) s l m n z (isIn s l) (((l.length : Int) == (m.length : Int)) && alike l m) (isOf n z) z (z.length : Int) (z.length : Int) = some true := by
  simp only [laws_FnMembers.l1]
  rw [if_neg (by omega), member_f _ _ (by simp) k (by simp; omega), show isIn (⟨#[97]⟩ : ByteArray) [⟨#[97]⟩] = true from by simp [isIn]]
  simp only [Option.bind_some, if_true]
  rw [member_f _ _ hl k (by omega), Option.bind_some, if_pos (by simp), intMember_f _ _ hz k (by omega), Option.bind_some, if_pos (by simp), equals_f _ _ hl k (by omega), Option.bind_some]
  simp

/-- The law's first loop. -/
theorem loop0 (s : ByteArray) (l m : List ByteArray) (n : Int) (z : List Int) (hl : l.length ≤ 140737488351232) (c : Bool) (d : Nat) : ∀ i, i + d = l.length → ∀ a b k, (b = true → l.length = m.length) →
    laws_FnMembers.l0 (d + 1 + k) s l m n z a b c l (l.length : Int) (i : Int) = laws_FnMembers.l1 k s l m n z (a || isIn s (l.drop i)) (b && alike (l.drop i) (m.drop i)) c z (z.length : Int) 0 := by
  induction d with
  | zero =>
    intro i hi a b k _
    obtain rfl : i = l.length := by omega
    rw [List.drop_eq_nil_of_le (by omega), show isIn s [] = false from rfl, show alike [] (m.drop l.length) = true from rfl, Bool.or_false, Bool.and_true, Nat.zero_add, Nat.add_comm]
    simp only [laws_FnMembers.l0]
    rw [if_neg (by omega)]
  | succ d ih =>
    intro i hi a b k hb
    have hl' : i < l.length := by omega
    rw [show d + 1 + 1 + k = (d + 1 + k) + 1 by omega]
    simp only [laws_FnMembers.l0]
    rw [if_pos (by omega), if_pos (by omega), if_pos (by omega), wrap_nat hl' hl, rdOf_at hl', isIn_drop hl']
    cases b with
    | false =>
      cases a
      · rw [if_neg Bool.false_ne_true, if_neg Bool.false_ne_true, ih (i + 1) (by omega) _ _ k (by simp)]; simp
      · rw [if_pos rfl, if_neg Bool.false_ne_true, ih (i + 1) (by omega) _ _ k (by simp)]; simp
    | true =>
      have e := hb rfl
      have hm' : i < m.length := by omega
      have w : mn (i : Int) (wrap64 ((m.length : Int) - 1)) = (i : Int) := by
        unfold mn wrap64
        omega
      rw [w, alike_drop hl' hm']
      cases a
      · rw [if_neg Bool.false_ne_true, if_pos rfl, if_pos (by omega), if_pos (by omega), rdOf_at hm', ih (i + 1) (by omega) _ _ k (fun _ => e)]; simp
      · rw [if_pos rfl, if_pos rfl, if_pos (by omega), if_pos (by omega), rdOf_at hm', ih (i + 1) (by omega) _ _ k (fun _ => e)]; simp

theorem FnMembers (s : ByteArray) (l m : List ByteArray) (n : Int) (z : List Int) (hl : l.length ≤ 140737488351232) (hm : m.length ≤ 140737488351232) (hz : z.length ≤ 140737488351232) :
    ∃ k, laws_FnMembers.f k s l m n z = some true := by
  obtain ⟨b1, h1⟩ := fits_f l hl
  obtain ⟨b2, h2⟩ := fits_f m hm
  have J1t : ∀ k, laws_FnMembers.j1 (k + 1) s l m n z true = some true := fun k => by simp only [laws_FnMembers.j1, if_true]
  have J1f : ∀ k, max l.length z.length + l.length + z.length + m.length + 10 ≤ k → laws_FnMembers.j1 (k + 1) s l m n z false = some true := fun k hk => by
    simp only [laws_FnMembers.j1]
    rw [if_neg (by simp)]
    obtain ⟨k', rfl⟩ : ∃ k', k = l.length + 1 + (z.length + 1 + k') := ⟨k - l.length - z.length - 2, by omega⟩
    rw [show (0 : Int) = ((0 : Nat) : Int) from rfl, loop0 s l m n z hl false l.length 0 (by omega) _ _ _ (fun h => by have := eq_of_beq h; omega),
      show (0 : Int) = ((0 : Nat) : Int) from rfl, loop1 s l m n z hz _ _ z.length 0 (by omega) _ k' (by omega), List.drop_zero, List.drop_zero, List.drop_zero, Bool.false_or, Bool.false_or]
    exact tail1 s l m n z hl hz k' (by omega)
  have J1 : ∀ c k, max l.length z.length + l.length + z.length + m.length + 10 ≤ k → laws_FnMembers.j1 (k + 1) s l m n z c = some true := fun c k hk => by
    cases c
    · exact J1f k hk
    · exact J1t k
  have J0 : ∀ c k, max l.length z.length + l.length + z.length + m.length + 10 ≤ k → laws_FnMembers.j0 (k + 1 + 1) s l m n z c = some true := fun c k hk => by
    simp only [laws_FnMembers.j0]
    cases c
    · rw [if_neg (by simp), J1 _ k hk, J1 _ k hk]
      split
      · rfl
      · split <;> rfl
    · rw [if_pos rfl]
  refine ⟨max l.length z.length + l.length + z.length + m.length + 10 + 1 + 1, ?_⟩
  unfold laws_FnMembers.f
  rw [J0 _ _ (Nat.le_refl _), J0 _ _ (Nat.le_refl _), h1 _ (by omega), h2 _ (by omega), Option.bind_some, Option.bind_some]
  split
  · rfl
  · split
    · split <;> rfl
    · rfl

end Go.Proofs.Ytmngibfakkfnnaa.Pure
