/-
Contract of laws.steps: it says yes of places that are near. Condition: the words of the quotients and differences, each below a thousandth.
-/
import Derived.Test.YtooghncdhjdcpaaA6
import Derived.Test.YtooghncdhjdcpaaFx
namespace Go.Proofs.Ytooghncdhjdcpaa
open Go.RowKit Fl

/-- The words of one place: the quotient, the two differences, neither above a thousandth. -/
def stepB (n i x : Nat) : Bool := match floatBits .quo .f64 (floatOfInt .f64 (i : Int)) (floatOfInt .f64 (n : Int)) with
  | none => false
  | some q => match floatBits .sub .f64 x q, floatBits .sub .f64 q x with
    | some d, some e => (FloatKind.f64.format.order d 4562254508917369340 == some Ordering.gt) == false && (FloatKind.f64.format.order e 4562254508917369340 == some Ordering.gt) == false
    | _, _ => false
theorem stepB_of {n i x : Nat} (h : stepB n i x = true) : ∃ q d e, floatBits .quo .f64 (floatOfInt .f64 (i : Int)) (floatOfInt .f64 (n : Int)) = some q ∧ floatBits .sub .f64 x q = some d ∧ floatBits .sub .f64 q x = some e ∧
    (FloatKind.f64.format.order d 4562254508917369340 == some Ordering.gt) = false ∧ (FloatKind.f64.format.order e 4562254508917369340 == some Ordering.gt) = false := by
  unfold stepB at h
  split at h
  · cases h
  · rename_i q hq
    split at h
    · rename_i d e hd he
      simp only [Bool.and_eq_true, beq_iff_eq] at h
      exact ⟨q, d, e, hq, hd, he, h.1, h.2⟩
    · cases h

set_option maxHeartbeats 1000000 in
theorem steps_any (L : List Nat) (p c : Nat) (w : World) (hL : L.length ≤ 1000) (hc : ∀ j x, L[j]? = some x → w.cell? ⟨p, j, none⟩ = some (.float .f64 x)) (hs : ∀ i, i < L.length → stepB L.length i (L.getD i 0) = true) :
    Calls Try.prog 50 #[.slice (some ⟨p, 0, none⟩) L.length c, .int .i64 (L.length : Int)] w fun e w' => e = .returned (.bool true) ∧ w = w' := by
  have HS := Lib.hid hs
  have HC := Lib.hid hc
  clear hs hc
  go_enter Try.func50, Try.ntmps50
  go_wp2
  go_loop [14] (fun i => ∃ k : Nat, k ≤ L.length ∧ i = .int .i64 k) (fun i => L.length - (intOf i).toNat)
  case atStart => exact ⟨0, Nat.zero_le _, rfl⟩
  case round =>
    obtain ⟨k, hk, rfl⟩ := hrel
    by_cases hlt : k < L.length
    · obtain ⟨x, hX⟩ : ∃ x, L[k]? = some x := ⟨_, List.getElem?_eq_getElem hlt⟩
      have hB := HS.out k hlt
      rw [List.getD_eq_getElem?_getD, hX, Option.getD_some] at hB
      obtain ⟨q, d, e, h1, h2, h3, h4, h5⟩ := stepB_of hB
      have hx : w.cell? ⟨p, k, none⟩ = some (.float .f64 x) := HC.out k _ hX
      clear hX hB
      have o1 := run_bin (P := Try.prog) .quo h1
      have o2 := run_bin (P := Try.prog) .sub h2
      have o3 := run_bin (P := Try.prog) .sub h3
      clear h1 h2 h3
      go_wp2
      go_round
      case rel => exact ⟨k + 1, by omega, by go_num⟩
      case measure => simp [intOf]; omega
    · go_wp2
      go_ret
      exact ⟨rfl, rfl⟩
/-- The same, the numbers as letters. -/
theorem steps_at (L : List Nat) (n : Nat) (m : Int) (hn : L.length = n) (hm : (n : Int) = m) (p c : Nat) (w : World) (hL : L.length ≤ 1000) (hc : ∀ j x, L[j]? = some x → w.cell? ⟨p, j, none⟩ = some (.float .f64 x)) (hs : ∀ i, i < L.length → stepB L.length i (L.getD i 0) = true) :
    Calls Try.prog 50 #[.slice (some ⟨p, 0, none⟩) n c, .int .i64 m] w fun e w' => e = .returned (.bool true) ∧ w = w' := by
  subst hm
  subst hn
  exact steps_any L p c w hL hc hs
theorem step1 : ∀ i, i < ([0] : List Nat).length → stepB ([0] : List Nat).length i (([0] : List Nat).getD i 0) = true := by decide +kernel
theorem step2 : ∀ i, i < ([0, 4602678819172646912] : List Nat).length → stepB ([0, 4602678819172646912] : List Nat).length i (([0, 4602678819172646912] : List Nat).getD i 0) = true := by decide +kernel
theorem step3 : ∀ i, i < ([0, 4599676359373071550, 4604179959000442046] : List Nat).length → stepB ([0, 4599676359373071550, 4604179959000442046] : List Nat).length i (([0, 4599676359373071550, 4604179959000442046] : List Nat).getD i 0) = true := by decide +kernel
theorem step4 : ∀ i, i < ([0, 4598175219545276416, 4602678819172646912, 4604930618986332160] : List Nat).length → stepB ([0, 4598175219545276416, 4602678819172646912, 4604930618986332160] : List Nat).length i (([0, 4598175219545276416, 4602678819172646912, 4604930618986332160] : List Nat).getD i 0) = true := by decide +kernel
end Go.Proofs.Ytooghncdhjdcpaa
