/-
The law FnOctal: the byte of octal digits: three functions walked. Condition: the text's letters are octal digits, of one to three.
-/
import Derived.Test.YtlahbaolbgfmjaaDoorO1
import Derived.Lib.AtoiErrMem
namespace Go.Proofs.YtlahbaolbgfmjaaDoor
open Go.RowKit Go.ChangeShapes

theorem octFrom_small (bs : List UInt8) (ho : Octal bs) (h : bs.length ≤ 3) : octFrom 0 bs ≤ 511 := by
  unfold Octal at ho
  rcases bs with _ | ⟨a, _ | ⟨b, _ | ⟨c, _ | ⟨d, r⟩⟩⟩⟩
  · unfold octFrom; omega
  · have h1 := ho a (by simp)
    unfold octFrom octFrom; omega
  · have h1 := ho a (by simp)
    have h2 := ho b (by simp)
    unfold octFrom octFrom octFrom; omega
  · have h1 := ho a (by simp)
    have h2 := ho b (by simp)
    have h3 := ho c (by simp)
    unfold octFrom octFrom octFrom octFrom; omega
  · simp only [List.length_cons] at h; omega

theorem parse2 (t : ByteArray) (hne : t.size ≠ 0) (hmax : t.size ≤ 3) (ho : Octal t.data.toList) (w : World) :
    Calls Tryd.prog 13 #[.string t, .int .i64 8, .int .i64 16] w fun e w' => e = .returned (.tuple #[.int .u64 (octFrom 0 t.data.toList : Nat), .nilIface]) ∧ w' = Lib.bytesWorld w 5 t := by
  have H := Lib.hid (parse t hne hmax ho w)
  have h5 := octFrom_small _ ho (by rw [← Lib.size_eq]; exact hmax)
  generalize octFrom 0 t.data.toList = r at H h5 ⊢
  go_enter Tryd.func13, Tryd.ntmps13
  go_wp2_with (go_at_call 14; have K := H.out; refine K.mono ?_; clear K H; rintro e w1 ⟨rfl, rfl⟩)
  go_ret2
  exact ⟨rfl, rfl⟩

theorem low_all : ∀ r : Fin 512, bits BinOp.and IntKind.u64 ((r.val : Nat) : Int) 255 % 256 = IntKind.u8.wrap ((r.val : Nat) : Int) := by decide +kernel
theorem low (r : Nat) (h : r ≤ 511) : bits BinOp.and IntKind.u64 (r : Int) 255 % 256 = IntKind.u8.wrap (r : Int) := low_all ⟨r, by omega⟩

theorem byteFor (t : ByteArray) (hne : t.size ≠ 0) (hmax : t.size ≤ 3) (ho : Octal t.data.toList) (w : World) :
    Calls Tryd.prog 12 #[.string t] w fun e w' => e = .returned (.int .u8 (IntKind.u8.wrap (octFrom 0 t.data.toList : Nat))) ∧ w' = Lib.bytesWorld w 5 t := by
  have H := Lib.hid (parse2 t hne hmax ho w)
  have h5 := octFrom_small _ ho (by rw [← Lib.size_eq]; exact hmax)
  generalize octFrom 0 t.data.toList = r at H h5 ⊢
  have hz : ((t.size : Int) == 0) = false := by
    have : (t.size : Int) ≠ 0 := by omega
    simpa using this
  have h3 : ¬ (3 : Int) < t.size := by omega
  clear hmax hne
  have hl := low r h5
  go_enter Tryd.func12, Tryd.ntmps12
  go_wp2_with (go_at_call 13; have K := H.out; refine K.mono ?_; clear K H; rintro e w1 ⟨rfl, rfl⟩)
  go_ret
  exact ⟨by rw [hl]; rfl, rfl⟩

theorem octalByte (t : ByteArray) (hne : t.size ≠ 0) (hmax : t.size ≤ 3) (ho : Octal t.data.toList) (w : World) :
    Calls Tryd.prog 8 #[.string t] w fun e w' => e = .returned (.int .u8 (IntKind.u8.wrap (octFrom 0 t.data.toList : Nat))) ∧ Below w.heap.size w w' := by
  have H := Lib.hid (byteFor t hne hmax ho w)
  generalize octFrom 0 t.data.toList = r at H ⊢
  go_enter Tryd.func8, Tryd.ntmps8
  go_wp2_with (go_at_call 12; have K := H.out; refine K.mono ?_; clear K H; rintro e w1 ⟨rfl, rfl⟩)
  go_ret
  exact ⟨rfl, Lib.bytesWorld_below _ _ _⟩
end Go.Proofs.YtlahbaolbgfmjaaDoor
