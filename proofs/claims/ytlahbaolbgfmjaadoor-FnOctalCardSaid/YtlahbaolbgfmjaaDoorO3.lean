/-
The law FnOctal: the law's own function walked. No condition on the text.
-/
import Derived.Test.YtlahbaolbgfmjaaDoorO2
namespace Go.Proofs.YtlahbaolbgfmjaaDoor
open Go.RowKit Go.ChangeShapes

def Ans (t : ByteArray) (w : World) : Prop := Calls Tryd.prog 4 #[.string t] w fun e w' => e = .returned (.bool true) ∧ Below w.heap.size w w'

theorem probe (w : World) : Calls Tryd.prog 8 #[.string ⟨#[49, 48, 49]⟩] w fun e w' => e = .returned (.int .u8 65) ∧ Below w.heap.size w w' :=
  octalByte ⟨#[49, 48, 49]⟩ (by decide) (by decide) (by intro c hc; simp at hc; rcases hc with rfl | rfl | rfl <;> decide) w

set_option maxHeartbeats 4000000 in
set_option maxRecDepth 100000 in
theorem octal_all (t : ByteArray) (w : World) : Ans t w := by
  unfold Ans
  have H1 := Lib.hid (fun h1 h2 h3 => octalByte t h1 h2 h3 w)
  have H2 := Lib.hid probe
  obtain ⟨bs, hL⟩ : ∃ bs, bs = t.data.toList := ⟨_, rfl⟩
  have hLn : bs.length = t.size := by rw [hL, Lib.size_eq]
  by_cases hbig : 2147483647 < (t.size : Int)
  · clear H1 H2
    go_enter Tryd.func4, Tryd.ntmps4
    go_wp2
    go_ret
    exact ⟨rfl, Below.refl _ _⟩
  go_enter Tryd.func4, Tryd.ntmps4
  go_wp2
  go_loop [3, 10] (fun vn vi => ∃ (k acc : Nat) (a : Int), vn = .int .i64 a ∧ vi = .int .i64 k ∧ k ≤ t.size ∧ Hid (a = (acc : Int) ∧ octFrom 0 bs = octFrom acc (bs.drop k) ∧ Octal (bs.take k) ∧ ((k = 0 ∧ acc = 0) ∨ t.size ≤ 3 ∧ Small k acc)))
    (fun _ vi => t.size - (intOf vi).toNat)
  case atStart => exact ⟨0, 0, 0, rfl, rfl, by omega, rfl, rfl, by intro c hc; simp at hc, Or.inl ⟨rfl, rfl⟩⟩
  case round =>
    obtain ⟨k, acc, a, rfl, rfl, hk, hh⟩ := hrel
    obtain ⟨ha, hdec, hoct, hs⟩ := hh.out
    clear hh
    have h511 : acc ≤ 511 := by rcases hs with ⟨_, h⟩ | ⟨_, h⟩; omega; exact h.le
    have a0 : 0 ≤ a := by omega
    have a1 : a ≤ 511 := by omega
    by_cases hkn : k < t.size
    · have hdrop : bs.drop k = bs[k]'(by omega) :: bs.drop (k + 1) := List.drop_eq_getElem_cons (by omega)
      have htake : bs.take (k + 1) = bs.take k ++ [bs[k]'(by omega)] := by rw [List.take_add_one, List.getElem?_eq_getElem (by omega)]; rfl
      have hb : bs[k]'(by omega) = t[k]'hkn := by subst hL; simp; rfl
      rw [hb] at hdrop htake
      rw [hdrop] at hdec
      by_cases l : ((t[k]'hkn).toNat : Int) < 48
      · clear H1 H2 hs hoct hdec ha h511 hb hdrop htake
        go_wp2
        go_ret
        exact ⟨rfl, Below.refl _ _⟩
      by_cases g : 55 < ((t[k]'hkn).toNat : Int)
      · clear H1 H2 hs hoct hdec ha h511 hb hdrop htake
        go_wp2
        go_ret
        exact ⟨rfl, Below.refl _ _⟩
      by_cases m : 3 < (t.size : Int)
      · clear H1 H2 hs hoct hdec ha h511 hb hdrop htake
        go_wp2
        go_ret
        exact ⟨rfl, Below.refl _ _⟩
      have HN : Hid (8 * a + (((t[k]'hkn).toNat : Int) - 48) = ((8 * acc + ((t[k]'hkn).toNat - 48) : Nat) : Int) ∧ octFrom 0 bs = octFrom (8 * acc + ((t[k]'hkn).toNat - 48)) (bs.drop (k + 1)) ∧ Octal (bs.take (k + 1)) ∧
          ((k + 1 = 0 ∧ 8 * acc + ((t[k]'hkn).toNat - 48) = 0) ∨ t.size ≤ 3 ∧ Small (k + 1) (8 * acc + ((t[k]'hkn).toNat - 48)))) := by
        refine Lib.hid ⟨by omega, hdec, ?_, Or.inr ⟨by omega, ?_⟩⟩
        · rw [htake]
          intro c hc
          rcases List.mem_append.1 hc with h | h
          · exact hoct c h
          · rw [List.mem_singleton.1 h]; omega
        · have sm : Small k acc := by
            rcases hs with ⟨h, h'⟩ | ⟨_, h⟩
            · exact Or.inl ⟨h, h'⟩
            · exact h
          exact sm.next (by omega) (by omega)
      clear H1 H2 hs hoct hdec ha h511 hb hdrop htake
      go_wp2
      exact ⟨⟨k + 1, 8 * acc + ((t[k]'hkn).toNat - 48), _, rfl, rfl, by omega, HN⟩, by simp [intOf]; omega⟩
    · have hkk : k = t.size := by omega
      subst hkk
      rw [List.drop_eq_nil_of_le (by omega)] at hdec
      rw [show octFrom acc [] = acc from rfl] at hdec
      rw [List.take_of_length_le (by omega)] at hoct
      by_cases hz : (t.size : Int) = 0
      · clear H1 H2 hs hoct hdec ha h511
        go_wp2
        go_ret
        exact ⟨rfl, Below.refl _ _⟩
      have hz' : ((t.size : Int) == 0) = false := by simpa using hz
      have h3 : t.size ≤ 3 := by rcases hs with ⟨h, _⟩ | ⟨h, _⟩ <;> omega
      have K1 := H1.out (by omega) h3 (by rw [← hL]; exact hoct)
      rw [← hL, hdec, IntKind.wrap_u8, ← ha] at K1
      have H3 := Lib.hid K1
      clear H1 K1 hs hoct hdec ha h511 h3
      go_wp2_with (first
        | (go_at_call 8; have K := H3.out; refine K.mono ?_; clear K H3; rintro e w1 ⟨rfl, s1⟩)
        | (go_at_call 8; have K := H2.out; refine (K _).mono ?_; clear K H2; rintro e w2 ⟨rfl, s2⟩))
      go_ret
      exact ⟨rfl, s1.trans (s2.mono s1.size)⟩
end Go.Proofs.YtlahbaolbgfmjaaDoor
