/-
The law FnOctal: the library's reading of numbers, walked for one to three octal digits. Condition: the text's letters are octal digits, of one to three. (Turned to the octal base from the kit's worked proof of the decimal one.)
-/
import Derived.Test.YtlahbaolbgfmjaaDoorRows
import Derived.Lib.Strings
import Derived.Lib.Walk
import Derived.Lib.ConvBytes
import Derived.Lib.ParseIntBMem
import Derived.Lib.Hide
import Derived.Laws.Strings3
import Derived.WalkKit
import Derived.ProofKit
import Derived.BigQuiet
import Derived.Below
namespace Go.Proofs.YtlahbaolbgfmjaaDoor
open Go.RowKit Go.ChangeShapes

/-- The number of octal digits, from a number on. -/
def octFrom : Nat → List UInt8 → Nat
  | a, [] => a
  | a, c :: r => octFrom (8 * a + (c.toNat - 48)) r
/-- How great the number of so many digits can be. -/
def Small (k acc : Nat) : Prop := (k = 0 ∧ acc = 0) ∨ (k = 1 ∧ acc ≤ 7) ∨ (k = 2 ∧ acc ≤ 63) ∨ (k = 3 ∧ acc ≤ 511)
theorem Small.le {k acc : Nat} (h : Small k acc) : acc ≤ 511 := by unfold Small at h; omega
theorem Small.next {k acc d : Nat} (h : Small k acc) (hk : k < 3) (hd : d ≤ 7) : Small (k + 1) (8 * acc + d) := by unfold Small at h ⊢; omega
def Octal (bs : List UInt8) : Prop := ∀ c ∈ bs, 48 ≤ c.toNat ∧ c.toNat ≤ 55

set_option maxHeartbeats 4000000 in
set_option maxRecDepth 100000 in
theorem parse (t : ByteArray) (hne : t.size ≠ 0) (hmax : t.size ≤ 3) (ho : Octal t.data.toList) (w : World) :
    Calls Tryd.prog 14 #[.string t, .int .i64 8, .int .i64 16] w fun e w' => e = .returned (.tuple #[.int .u64 (octFrom 0 t.data.toList : Nat), .nilIface]) ∧ w' = Lib.bytesWorld w 5 t := by
  have hcv := Lib.run_convert_string_bytes (P := Tryd.prog) w 9 42 5 t (u := .string) Tryd.underlying9 Tryd.underlying42 Tryd.underlying5
  have hemp : t.toList.isEmpty = false := by
    rw [← decide_eq_emptyBytes]
    exact decide_eq_false (fun h => hne (by rw [h]; rfl))
  have hB : ∀ j, j < t.size → (Lib.bytesWorld w 5 t).cell? ⟨w.heap.size, j, none⟩ = some (.int .u8 (t.data.toList.getD j 0).toNat) := fun j hj => Lib.bytesWorld_cell w 5 t j hj
  obtain ⟨W1, hW1⟩ : ∃ W1, W1 = Lib.bytesWorld w 5 t := ⟨_, rfl⟩
  rw [← hW1] at hcv hB ⊢
  clear hW1
  obtain ⟨bs, hL⟩ : ∃ bs, bs = t.data.toList := ⟨_, rfl⟩
  have hLn : bs.length = t.size := by rw [hL, Lib.size_eq]
  rw [← hL] at hB ho ⊢
  clear hL
  have hmv : IntKind.u64.wrap (IntKind.u64.wrap 65536 - 1) = 65535 := by
    rw [IntKind.wrap_u64, IntKind.wrap_u64]
    decide
  go_enter Tryd.func14, Tryd.ntmps14
  go_wp2
  go_loop [12, 13, 101] (fun vu vn vi => ∃ (k acc : Nat) (a : Int), vu = .bool false ∧ vn = .int .u64 a ∧ vi = .int .i64 k ∧ k ≤ t.size ∧ Hid (a = (acc : Int) ∧ Small k acc ∧ octFrom 0 bs = octFrom acc (bs.drop k)))
    (fun _ _ vi => t.size - (intOf vi).toNat)
  case atStart => exact ⟨0, 0, 0, rfl, rfl, rfl, by omega, rfl, Or.inl ⟨rfl, rfl⟩, rfl⟩
  case round =>
    obtain ⟨k, acc, a, rfl, rfl, rfl, hk, hh⟩ := hrel
    obtain ⟨ha, hacc, hdec⟩ := hh.out
    clear hh
    have h511 := hacc.le
    have a0 : 0 ≤ a := by omega
    have a1 : a ≤ 511 := by omega
    by_cases hkn : k < t.size
    · have hc := hB k hkn
      have hdrop : bs.drop k = bs[k]'(by omega) :: bs.drop (k + 1) := List.drop_eq_getElem_cons (by omega)
      have hget : bs.getD k 0 = bs[k]'(by omega) := by simp [List.getD, List.getElem?_eq_getElem (show k < bs.length by omega)]
      have hcc := ho (bs[k]'(by omega)) (List.getElem_mem _)
      rw [hdrop] at hdec
      rw [hget] at hc
      generalize bs[k]'(by omega) = c at hc hdec hcc
      have hc256 : c.toNat < 256 := c.toNat_lt
      obtain ⟨hd0, hd1⟩ := hcc
      have HN : Hid (a * 8 + ((c.toNat : Int) - 48) = ((8 * acc + (c.toNat - 48) : Nat) : Int) ∧ Small (k + 1) (8 * acc + (c.toNat - 48)) ∧ octFrom 0 bs = octFrom (8 * acc + (c.toNat - 48)) (bs.drop (k + 1))) :=
        Lib.hid ⟨by omega, hacc.next (by omega) (by omega), hdec⟩
      clear hB hdrop hget hdec ha hacc h511 ho
      go_wp2
      refine ⟨⟨k + 1, 8 * acc + (c.toNat - 48), a * 8 + ((c.toNat : Int) - 48), rfl, (by first | rfl | (congr 1; omega)), (by first | rfl | (congr 1; omega)), by omega, HN⟩, by simp [intOf]; omega⟩
    · have hkk : k = t.size := by omega
      subst hkk
      rw [List.drop_eq_nil_of_le (by omega)] at hdec
      rw [show octFrom acc [] = acc from rfl] at hdec
      rw [hdec]
      subst ha
      clear hacc a0 a1 h511
      go_wp2
      go_ret2
      exact ⟨rfl, rfl⟩
end Go.Proofs.YtlahbaolbgfmjaaDoor
