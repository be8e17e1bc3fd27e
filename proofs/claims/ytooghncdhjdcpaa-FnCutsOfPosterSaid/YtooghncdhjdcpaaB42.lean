/-
FnCutsOfPoster: multiples walked. Conditions: the operations' words are given.
-/
import Derived.Test.YtooghncdhjdcpaaB40
namespace Go.Proofs.Ytooghncdhjdcpaa
open Go.RowKit Fl

/-- The words of a list of places: l; of the multiples: m; their differences: d, e; K multiples are below 0.98. -/
structure MulW (len K step : Nat) (l m d e : Nat → Nat) : Prop where
  hm : ∀ k, k ≤ K → floatBits .mul .f64 (floatOfInt .f64 ((k : Nat) : Int)) step = some (m k)
  lt : ∀ k, k < K → (FloatKind.f64.format.order (m k) 4607002274814922588 == some Ordering.lt) = true
  ge : (FloatKind.f64.format.order (m K) 4607002274814922588 == some Ordering.lt) = false
  hK : K ≤ len
  hd : ∀ k, k < K → floatBits .sub .f64 (l k) (m k) = some (d k)
  gd : ∀ k, k < K → (FloatKind.f64.format.order (d k) 4517329193108106637 == some Ordering.gt) = false
  he : ∀ k, k < K → floatBits .sub .f64 (m k) (l k) = some (e k)
  hge : ∀ k, k < K → (FloatKind.f64.format.order (e k) 4517329193108106637 == some Ordering.gt) = false
  hn : len ≤ K + 2
  hl : len < 1000
set_option maxRecDepth 100000 in
set_option maxHeartbeats 4000000 in
theorem multiples_run {len K step g cap : Nat} {l m d e : Nat → Nat} (V : MulW len K step l m d e) (w : World) (hc : ∀ k, k < len → w.cell? ⟨g, k, none⟩ = some (.float .f64 (l k))) :
    Calls Try.prog 56 #[.slice (some ⟨g, 0, none⟩) len cap, .float .f64 step] w fun e w' => e = .returned (.bool true) ∧ w = w' := by
  have HV := Lib.hid V
  have HC := Lib.hid hc
  have hlen := V.hl
  have hKl := V.hK
  have hn := V.hn
  clear V hc
  go_enter Try.func56, Try.ntmps56
  go_wp2_with fail
  go_loop [5] (fun i => ∃ k : Nat, k ≤ K ∧ i = .int .i64 k) (fun i => K - (intOf i).toNat)
  case atStart => exact ⟨0, Nat.zero_le _, rfl⟩
  case round =>
    obtain ⟨k, hk, rfl⟩ := hrel
    have e1 := HV.out.hm k hk
    obtain ⟨mm, Em⟩ : ∃ z, m k = z := ⟨_, rfl⟩
    rw [Em] at e1
    have O1 := run_bin (P := Try.prog) .mul e1
    by_cases hlt : k < K
    · have e2 := HV.out.hd k hlt
      have e3 := HV.out.he k hlt
      have c1 := HV.out.lt k hlt
      have c2 := HV.out.gd k hlt
      have c3 := HV.out.hge k hlt
      have c0 := HC.out k (by omega)
      obtain ⟨ll, El⟩ : ∃ z, l k = z := ⟨_, rfl⟩
      obtain ⟨dd, Ed⟩ : ∃ z, d k = z := ⟨_, rfl⟩
      obtain ⟨ee, Ee⟩ : ∃ z, e k = z := ⟨_, rfl⟩
      rw [Em, El, Ed] at e2
      rw [Em, El, Ee] at e3
      rw [Em] at c1
      rw [Ed] at c2
      rw [Ee] at c3
      rw [El] at c0
      have O2 := run_bin (P := Try.prog) .sub e2
      have O3 := run_bin (P := Try.prog) .sub e3
      have hkl : k < len := by omega
      clear e1 e2 e3 Em El Ed Ee
      go_wp2_with fail
      go_round
      case rel => exact ⟨k + 1, by omega, by go_num⟩
      case measure => simp [intOf] <;> omega
    · obtain rfl : k = K := by omega
      have c1 := HV.out.ge
      rw [Em] at c1
      have hdn : decide ((len : Int) ≤ (k : Int) + 2) = true := decide_eq_true (by omega)
      clear e1 Em
      go_wp2_with fail
      go_ret
      exact ⟨rfl, rfl⟩
end Go.Proofs.Ytooghncdhjdcpaa
