/-
The law FnWestern, the plain part: bytes that are no signs of their own between 80 and 9F, and their signs in UTF-8. Conditions: numbers from 0 to 255.
-/
import Derived.Test.YtmngibfakkfnnaaC1
import Derived.Laws.BytesArg
import Derived.Laws.RangeAny
namespace Go.Proofs.Ytmngibfakkfnnaa
open Go.RowKit Go.Proofs.YtmngibfakkfnnaaW.PrintWords

/-- A sign's bytes. -/
def enc1 (x : Int) : List Int := if x < 128 then [x] else [192 + x / 64, 128 + x % 64]
def encAll (xs : List Int) : List Int := xs.flatMap enc1
theorem encAll_cons (x : Int) (xs : List Int) : encAll (x :: xs) = enc1 x ++ encAll xs := rfl
theorem encAll_append (xs ys : List Int) : encAll (xs ++ ys) = encAll xs ++ encAll ys := by simp [encAll]
theorem encAll_take_succ (xs : List Int) (k : Nat) (h : k < xs.length) : encAll (xs.take (k + 1)) = encAll (xs.take k) ++ enc1 xs[k] := by
  rw [List.take_add_one, List.getElem?_eq_getElem h, encAll_append]
  simp [encAll]
theorem enc1_length (x : Int) : 1 ≤ (enc1 x).length ∧ (enc1 x).length ≤ 2 := by
  unfold enc1; split <;> simp

theorem encode_eq (x : Int) (h0 : 0 ≤ x) (h1 : x < 256) : Utf8.encode x = strOfNums (enc1 x) := by
  obtain ⟨n, rfl⟩ : ∃ n : Nat, x = n := ⟨x.toNat, by omega⟩
  have hv : Utf8.valid (n : Int) = true := by simp [Utf8.valid]; omega
  unfold Utf8.encode enc1 strOfNums
  simp only [hv, if_true, Int.toNat_natCast]
  by_cases h : n < 128
  · rw [if_pos h, if_pos (by omega)]; simp
  · rw [if_neg h, if_pos (by omega), if_neg (by omega)]
    have e1 : (192 + (n : Int) / 64).toNat = 192 + n / 64 := by omega
    have e2 : (128 + (n : Int) % 64).toNat = 128 + n % 64 := by omega
    simp [e1, e2]

theorem get_str (L : List Int) (j : Nat) (h : j < L.length) : ((strOfNums L).get! j).toNat = (L.getD j 0).toNat % 256 := by
  have : (strOfNums L).get! j = UInt8.ofNat (L.getD j 0).toNat := by
    have h' : j < (strOfNums L).size := by rw [strOfNums_size]; exact h
    show (strOfNums L).data[j]! = _
    rw [getElem!_pos (strOfNums L).data j h']
    simp [strOfNums, List.getD_eq_getElem?_getD, List.getElem?_eq_getElem h]
  rw [this, UInt8.toNat_ofNat']

theorem decode_eq (p : List Int) (x : Int) (q : List Int) (h0 : 0 ≤ x) (h1 : x < 256) :
    Utf8.decode (strOfNums (encAll (p ++ x :: q))) (encAll p).length = (x.toNat, (enc1 x).length) := by
  rw [encAll_append, encAll_cons]
  obtain ⟨n, rfl⟩ : ∃ n : Nat, x = n := ⟨x.toNat, by omega⟩
  by_cases h : n < 128
  · have e : enc1 (n : Int) = [(n : Int)] := by unfold enc1; rw [if_pos (by omega)]
    rw [e]
    have g := get_str (encAll p ++ ([(n : Int)] ++ encAll q)) (encAll p).length (by simp)
    rw [List.getD_eq_getElem?_getD, List.getElem?_append_right (Nat.le_refl _), Nat.sub_self] at g
    simp at g
    unfold Utf8.decode
    simp only [Nat.add_zero, List.singleton_append, g]
    rw [if_pos (by omega)]
    simp; omega
  · have e : enc1 (n : Int) = [192 + (n : Int) / 64, 128 + (n : Int) % 64] := by unfold enc1; rw [if_neg (by omega)]
    rw [e]
    have g := get_str (encAll p ++ ([192 + (n : Int) / 64, 128 + (n : Int) % 64] ++ encAll q)) (encAll p).length (by simp)
    have g' := get_str (encAll p ++ ([192 + (n : Int) / 64, 128 + (n : Int) % 64] ++ encAll q)) ((encAll p).length + 1) (by simp)
    have hs := strOfNums_size (encAll p ++ ([192 + (n : Int) / 64, 128 + (n : Int) % 64] ++ encAll q))
    rw [List.getD_eq_getElem?_getD, List.getElem?_append_right (by omega)] at g g'
    rw [Nat.sub_self] at g
    rw [Nat.add_sub_cancel_left] at g'
    simp only [List.cons_append, List.nil_append, List.getElem?_cons_zero, List.getElem?_cons_succ, Option.getD_some, List.length_append, List.length_cons] at g g' hs
    have v : (192 + (n : Int) / 64).toNat % 256 = 192 + n / 64 := by omega
    have v' : (128 + (n : Int) % 64).toNat % 256 = 128 + n % 64 := by omega
    rw [v] at g
    rw [v'] at g'
    unfold Utf8.decode
    simp only [Nat.add_zero, List.cons_append, List.nil_append, g, g', hs]
    rw [if_neg (by omega), if_pos (by simp; omega), if_pos (by omega)]
    simp; omega

/-- What the law lets in. -/
def fine (xs : List Int) : Prop := ∀ x ∈ xs, 0 ≤ x ∧ x < 256

theorem bits_all : ∀ a : Fin 256, 128 ≤ a.val → Go.bits .or .u8 192 (((a.val : Int) / 64) % 256) = 192 + (a.val : Int) / 64 ∧ Go.bits .or .u8 128 (Go.bits .and .u8 ((a.val : Int) % 256) 63) = 128 + (a.val : Int) % 64 := by decide +kernel
theorem bits_of {x : Int} (h0 : 128 ≤ x) (h1 : x < 256) : Go.bits .or .u8 192 ((x / 64) % 256) = 192 + x / 64 ∧ Go.bits .or .u8 128 (Go.bits .and .u8 (x % 256) 63) = 128 + x % 64 := by
  obtain ⟨n, rfl⟩ : ∃ n : Nat, x = n := ⟨x.toNat, by omega⟩
  exact bits_all ⟨n, by omega⟩ (by show 128 ≤ n; omega)

theorem at_str {L : List Int} (hf : fine L) {i : Nat} (h : i < L.length) (hz : (i : Int).toNat < (strOfNums L).size) : (((strOfNums L)[(i : Int).toNat]'hz).toNat : Int) = L[i] := by
  obtain ⟨a, b⟩ := hf L[i] (List.getElem_mem h)
  have : (strOfNums L)[(i : Int).toNat]'hz = UInt8.ofNat L[i].toNat := by
    show (strOfNums L).data[(i : Int).toNat] = _
    simp [strOfNums]
  rw [this, UInt8.toNat_ofNat']
  omega
theorem encAll_bound {L : List Int} (i : Nat) (hi : i ≤ L.length) : (encAll (L.take i)).length ≤ 2 * i := by
  induction i with
  | zero => simp [encAll]
  | succ j ih =>
    rw [encAll_take_succ L j (by omega), List.length_append]
    have := enc1_length L[j]
    have := ih (by omega)
    omega
end Go.Proofs.Ytmngibfakkfnnaa
