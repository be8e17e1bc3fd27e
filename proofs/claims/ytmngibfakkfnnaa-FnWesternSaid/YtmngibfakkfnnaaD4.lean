/-
The law FnWestern: the law's own function walked. Conditions: bytes that lie in memory.
-/
import Derived.Test.YtmngibfakkfnnaaD3
import Derived.Test.YtmngibfakkfnnaaD4a
import Derived.Laws.Runes
import Derived.Laws.BytesArg
import Derived.OrdersHeld
import Derived.Deep.RegionHeld3
namespace Go.Proofs.Ytmngibfakkfnnaa
open Go.RowKit Go.ChangeShapes Go.Proofs.YtmngibfakkfnnaaW.PrintWords

theorem str_append (a b : List Int) : strOfNums a ++ strOfNums b = strOfNums (a ++ b) := by
  apply ByteArray.ext
  simp [strOfNums]

theorem keepC {C : World → Prop} {w w1 w2 : World} (H : ∀ W, Below w.heap.size w W → C W) (h : Below w.heap.size w w1 ∧ C w1) (hb : Below w1.heap.size w1 w2) : Below w.heap.size w w2 ∧ C w2 := ⟨below_step h.1 hb, H _ (below_step h.1 hb)⟩
theorem fine_of {l : List Int} (h : ∀ n ∈ l, (Lit.int .u8 n).wf = true) : fine l := fun x hx => by
  have := h x hx
  simp [Lit.wf, IntKind.min, IntKind.max, IntKind.signed, IntKind.bits] at this
  omega
theorem spec_fine (b : Int) (w : World) (h0 : 0 ≤ b) (h1 : b < 256) (h : b < 128 ∨ 160 ≤ b) :
    Calls Try.prog 17 #[.int .u8 b] w fun e w' => e = .returned (.int .i32 b) ∧ Below w.heap.size w w' := by
  have m : wrap32 b = b := by unfold wrap32; omega
  go_enter Try.func17, Try.ntmps17
  by_cases c : b < 128
  · go_wp2
    go_ret
    exact ⟨rfl, Below.refl _ _⟩
  · have c2 : b ≥ 160 := by omega
    go_wp2
    go_ret
    exact ⟨rfl, Below.refl _ _⟩
set_option maxHeartbeats 1000000 in
theorem western_walk (A : Option Addr) (l : List Int) (c : Nat) (w : World) (hn : l.length ≤ 140737488351232) (hC : Kd.C (Kd.int .u8) w A l.length l) (hf : fine l) :
    Calls Try.prog 6 #[.slice A l.length c] w fun e w' => e = .returned (.bool true) ∧ Below w.heap.size w w' := by
  by_cases hbig : (l.length : Int) > 2147483647
  · go_enter Try.func6, Try.ntmps6
    go_wp2
    go_ret
    exact ⟨rfl, Below.refl _ _⟩
  have hcv : ∀ W, Below w.heap.size w W → (convert 35 9 (.slice A l.length c)).run Try.prog W = .ok (.string (strOfNums l)) W := fun W hb => Kd.C_string Try.underlying35 Try.underlying5 Try.underlying9 (Kd.C_below hC hb)
  have HCV := hid hcv
  clear hcv
  have hat : ∀ (k : Nat) (hk : k < l.length) (W : World), Below w.heap.size w W → ∃ ad, A = some ad ∧ W.cell? (ad.add k) = some (.int .u8 l[k]) := fun k hk W hb => by
    obtain ⟨ad, h, hc⟩ := Kd.at_int (Kd.C_below hC hb) (k : Int) (by omega) (by omega)
    refine ⟨ad, h, ?_⟩
    rw [show rd l (k : Int) = l[k] from by simp [rd, hk]] at hc
    simpa using hc
  have HAT := hid hat
  clear hat
  have hlt0 : ¬ (l.length : Int) > 2147483647 := hbig
  go_enter Try.func6, Try.ntmps6
  go_wp2
  go_loopw [3, 12] (fun v i wr => ∃ k : Nat, i = .int .i64 k ∧ k ≤ l.length ∧ v = .string (strOfNums (encAll (l.take k))) ∧ (0 < k → l.length ≤ 200) ∧ Below w.heap.size w wr) (fun _ i _ => l.length - (intOf i).toNat)
  case atStart => exact ⟨0, rfl, Nat.zero_le _, rfl, fun h => absurd h (Nat.lt_irrefl _), Below.refl _ _⟩
  case round =>
    obtain ⟨k, rfl, hk, rfl, h200, hb⟩ := hrel
    by_cases hlt : k < l.length
    · obtain ⟨x0, x1⟩ := hf l[k] (List.getElem_mem hlt)
      obtain ⟨ad, hA, hx⟩ := HAT.out k hlt wr hb
      subst hA
      have hts := encAll_take_succ l k hlt
      generalize l[k] = x at x0 x1 hx hts
      have hi2 : (k : Int) < (l.length : Int) := by omega
      by_cases hr : 128 ≤ x ∧ x < 160
      · have H := hid (spec_other x wr hr.1 hr.2)
        have r1 : x ≥ 128 := hr.1
        have r2 : x < 160 := hr.2
        by_cases hl2 : (l.length : Int) > 200
        · go_wp2_with (go_at_call 17; refine H.out.mono ?_; rintro e w1 ⟨⟨r, rfl⟩, hb1⟩)
          go_ret
          exact ⟨rfl, below_step hb hb1⟩
        · go_wp2_with (go_at_call 17; refine H.out.mono ?_; rintro e w1 ⟨⟨r, rfl⟩, hb1⟩)
          go_ret
          exact ⟨rfl, below_step hb hb1⟩
      · have H := hid (spec_fine x wr x0 (by omega) (by omega))
        by_cases hl2 : (l.length : Int) > 200
        · go_wp2_with (go_at_call 17; refine H.out.mono ?_; rintro e w1 ⟨rfl, hb1⟩)
          go_ret
          exact ⟨rfl, below_step hb hb1⟩
        · have he := encode_eq x x0 x1
          have hsum : ¬ 9223372036854775807 < (strOfNums (encAll (l.take k))).size + (strOfNums (enc1 x)).size := by
            rw [strOfNums_size, strOfNums_size]
            have := encAll_bound (L := l) k hk
            have := enc1_length x
            omega
          by_cases r1 : x ≥ 128
          · have r2 : ¬ x < 160 := by omega
            go_wp2_with (go_at_call 17; refine H.out.mono ?_; rintro e w1 ⟨rfl, hb1⟩)
            go_roundw
            case rel => exact ⟨k + 1, by simp, hlt, by rw [hts, str_append], fun _ => by omega, below_step hb hb1⟩
            case measure => simp [intOf]; omega
          · go_wp2_with (go_at_call 17; refine H.out.mono ?_; rintro e w1 ⟨rfl, hb1⟩)
            go_roundw
            case rel => exact ⟨k + 1, by simp, hlt, by rw [hts, str_append], fun _ => by omega, below_step hb hb1⟩
            case measure => simp [intOf]; omega
    · have hi2 : ¬ ((k : Int) < (l.length : Int)) := by omega
      have hk' : k = l.length := by omega
      subst hk'
      have hl2 : l.length ≤ 200 := by
        rcases Nat.eq_zero_or_pos l.length with h | h
        · omega
        · exact h200 h
      rw [List.take_length]
      have H1 := hid (fun W => western_calls l W hf (by omega))
      have H2 := hid (fun W => toWestern_calls l W hf (by omega))
      have hcv0 := HCV.out wr hb
      go_wp2
      go_region_held3 (fun w' => Below w.heap.size w w' ∧ (convert 35 9 (.slice A l.length c)).run Try.prog w' = .ok (.string (strOfNums l)) w')
        (first | assumption | exact ⟨hb.drew, HCV.out _ hb.drew⟩ | exact ⟨hb, hcv0⟩ | exact keepC HCV.out (by assumption) (by assumption))
        (first
          | (go_at_call 18; refine (H1.out _).mono ?_; rintro e w1 ⟨rfl, hb1⟩)
          | (go_at_call 19; refine (H2.out _).mono ?_; rintro e w1 ⟨rfl, hb1⟩))
      rename_i hh
      go_wp2
      go_ret
      exact ⟨rfl, hh.1⟩
end Go.Proofs.Ytmngibfakkfnnaa
